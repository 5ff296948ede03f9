/- Lemmas for the proof: X17 X18 X19 X20 X21 X22 X23 X24 X25 X26 X27 X28 Y4 X29 X30 X31. No conditions. -/
import Derived.Test.YtlnhldlhmplphaaDoorS13A05
set_option linter.unusedVariables false
set_option linter.unusedSimpArgs false
namespace Go.Sx
open Go Go.Proofs
set_option maxRecDepth 4000
theorem alloc1 {w:World} {b o n bytes:Nat} {f:Cells} {s:Sl} {zs:List Value} {T:TypeId} {κ:PT} {ni ni2:Int} (H:Blk w b f) (hf:f o=some s.val) (hO:Own zs.length w s) (hb:b∉s.bs) (hn:ni=(n:Nat)) (hn2:ni2=(n:Nat)) (hn0:0<n) (hby:n*bytes≤2^47)
  (hk:∀w' s',s'.l=n→Own zs.length w' s'→s'.a.isSome→n≤s'.c→Blk w' b (updC f o s'.val)→Fm w w' [b]→(∀x∈s'.bs,x∈s.bs∨w.heap.size≤x)→κ w') :
  (joinP (fun (R:Unit→PT)=>ld .S ⟨b,o,none⟩ fun (s4:Sl)=>cnd (decide ((s4.c:Int)<ni)) (mks zs T bytes ni2 ni2 fun (s5:Sl)=>st ⟨b,o,none⟩ (.slice s5.a s5.l s5.c)<|R ()) (R ()))
   (fun _=>ld .S ⟨b,o,none⟩ fun (s7:Sl)=>slc zs.length s7 none (some ni) none fun (s8:Sl)=>st ⟨b,o,none⟩ (.slice s8.a s8.l s8.c)<|κ)) w:=by
 subst hn hn2
 have hbl:=H.lt
 have tail:∀(w2:World) (s2:Sl),Own zs.length w2 s2→n≤s2.c→Blk w2 b (updC f o s2.val)→b∉s2.bs→Fm w w2 [b]→(∀x∈s2.bs,x∈s.bs∨w.heap.size≤x) →
   (ld .S ⟨b,o,none⟩ fun (s7:Sl)=>slc zs.length s7 none (some ((n:Nat):Int)) none fun (s8:Sl)=>st ⟨b,o,none⟩ (.slice s8.a s8.l s8.c)<|κ) w2:=by
  intro w2 s2 h1 h2 h3 h4 h5 h6
  have ho:updC f o s2.val o=some s2.val:=if_pos rfl
  refine ld_b (t := .S) (x:=s2) h3 ho ?_
  refine slc_hi (m:=n) rfl h2 ?_
  refine st_b h3 (by rw [ho];rfl) rfl ?_
  have B:=h3.setW (o:=o) (v := .slice s2.a n s2.c) (g:=updC f o (⟨s2.a,n,s2.c⟩:Sl).val) (by rw [ho];rfl) (by funext i;unfold updC;split<;>rfl)
  have F:=(Fm.refl w2 [b]).set (a:=⟨b,o,none⟩) (v := .slice s2.a n s2.c) (.inl (by simp))
  have hne:s2.a.isSome:=by
   cases ha:s2.a with
   | none=>have:=h1.2.1 ha;omega
   | some a=>rfl
  have hO2:=h1.fq (F.fq (P:=fun x=>x=b) (by simp)) (fun x hx e=>h4 (e▸hx))
  exact hk _ ⟨s2.a,n,s2.c⟩ rfl ⟨h2,hO2.2.1,hO2.2.2⟩ hne h2 B (h5.trans F (fun x hx => .inl hx)) h6
 refine joinP_id ?_
 refine ld_b (t := .S) (x:=s) H hf (cnd_d ?_ ?_)
 ·intro hc
  refine ⟨n,n,rfl,rfl,Nat.le_refl _,hby,?_⟩
  have F1:Fm w (w.alloc (.cells (zrep zs n) T)) []:=(Fm.refl w []).alloc
  have B1:Blk (w.alloc (.cells (zrep zs n) T)) w.heap.size fun i=>(zrep zs n)[i]? := Blk.new
  have H1:=H.fr F1 (by simp)
  refine st_b H1 (by rw [hf];rfl) rfl ?_
  have H2:=H1.set (o:=o) (v := .slice (some ⟨w.heap.size,0,none⟩) n n) (by rw [hf];rfl)
  have F2:=(F1.mono (S' := [b]) (by simp)).set (a:=⟨b,o,none⟩) (v := .slice (some ⟨w.heap.size,0,none⟩) n n) (.inl (by simp))
  have B2:=B1.other (a:=⟨b,o,none⟩) (v := .slice (some ⟨w.heap.size,0,none⟩) n n) (by simp only;omega)
  refine tail _ ⟨some ⟨w.heap.size,0,none⟩,n,n⟩ ⟨Nat.le_refl _,(fun h=>by cases h),?_⟩ (Nat.le_refl _) H2 (by simp [Sl.bs];omega) F2 (by intro x hx;right;simp [Sl.bs] at hx;omega)
  intro a ha
  injection ha with ha
  subst ha
  exact ⟨rfl,rfl,_,B2,fun i hi=>zrep_some zs n i hi⟩
 ·intro hc
  refine tail w s hO (by omega) (H.congr ?_) hb (Fm.refl w _) (fun x hx => .inl hx)
  funext i
  unfold updC
  split
  ·subst_vars;exact hf
  ·rfl
theorem Own.fm {sz:Nat} {w w':World} {s:Sl} {S:List Nat} (h:Own sz w s) (F:Fm w w' S) (hS:∀x∈s.bs,x∉S):Own sz w' s:=h.fq (F.fq (P:=fun x=>x∈S) (fun x hx=>hx)) hS
theorem c137 {T:Nat} (hT:LogOK T) {w:World} {b:Nat} {s:FS} {K:Unit→PT} (HB:Blk w b s.at) (hatl:s.atl=(T:Nat)) (h1:Own 1 w s.ts) (h2:Own 1 w s.st) (h3:Own 2 w s.tt) (d1:b∉s.ts.bs) (d2:b∉s.st.bs) (d3:b∉s.tt.bs)
  (hk:∀w' x y z,x.l=2^T→y.l=2^T→z.l=256→Own 1 w' x→Own 1 w' y→Own 2 w' z→x.a.isSome→y.a.isSome→z.a.isSome→Blk w' b ({ s with ts:=x,st:=y,tt:=z } : FS).at→Fm w w' [b] →
   (∀v∈x.bs,v∈s.ts.bs∨w.heap.size≤v)→(∀v∈y.bs,v∈s.st.bs∨(w.heap.size≤v∧v∉x.bs))→(∀v∈z.bs,v∈s.tt.bs∨(w.heap.size≤v∧v∉x.bs∧v∉y.bs))→K () w') :
  callP Tryd.prog 137 #[.pointer (some ⟨b,0,none⟩)] [] K w:=by
 apply q137_ok
 unfold q137 q137_J2 q137_J1 q137_J0
 have hTp:=hT.pow
 have e1:shlI .i64 1 ((T:Nat):Int)=((2^T:Nat):Int):=by rcases hT with rfl|rfl<;>rfl
 have hbl:=HB.lt
 simp only [add_mk,Nat.zero_add]
 refine ld_b (t := .I .u8) (x:=((T:Nat):Int)) HB (by show some (Value.int .u8 s.atl)=_;rw [hatl];rfl) ⟨by omega,?_⟩
 rw [e1]
 refine alloc1 (zs:=z5) (n:=2^T) HB rfl h1 d1 rfl rfl (by omega) (by omega) ?_
 intro w2 x x1 x2 x3 x4 B2 F2 x6
 have B2':Blk w2 b ({ s with ts:=x } : FS).at:=B2.congr (FS.setT 9 rfl rfl rfl (by decide))
 refine alloc1 (zs:=z81) (n:=2^T) B2' rfl (h2.fm F2 (by intro v hv;simp;intro e;exact d2 (e▸hv))) d2 rfl rfl (by omega) (by omega) ?_
 intro w3 y y1 y2 y3 y4 B3 F3 y6
 have B3':Blk w3 b ({ s with ts:=x,st:=y } : FS).at:=B3.congr (FS.setT 10 rfl rfl rfl (by decide))
 have F13:Fm w w3 [b]:=F2.trans F3 (fun x hx => .inl hx)
 refine alloc1 (zs:=z210) (n:=256) B3' rfl (h3.fm F13 (by intro v hv;simp;intro e;exact d3 (e▸hv))) d3 rfl rfl (by omega) (by omega) ?_
 intro w4 z z1 z2 z3 z4 B4 F4 z6
 have B4':Blk w4 b ({ s with ts:=x,st:=y,tt:=z } : FS).at:=B4.congr (FS.setT 11 rfl rfl rfl (by decide))
 have hx2:=x2.lt
 have hy2:=y2.lt
 have hbx:b∉x.bs:=by intro h;rcases x6 b h with h|h;exact d1 h;omega
 have hby:b∉y.bs:=by intro h;rcases y6 b h with h|h;exact d2 h;have:=F2.size;omega
 have hs2:=F2.size
 have hs3:=F3.size
 refine hk w4 x y z x1 y1 z1 ((x2.fm F3 ?_).fm F4 ?_) (y2.fm F4 ?_) z2 x3 y3 z3 B4' (F13.trans F4 (fun x hx => .inl hx)) x6 ?_ ?_
 ·intro v hv;simp;intro e;exact hbx (e▸hv)
 ·intro v hv;simp;intro e;exact hbx (e▸hv)
 ·intro v hv;simp;intro e;exact hby (e▸hv)
 ·intro v hv
  rcases y6 v hv with h|h
  ·exact .inl h
  ·exact .inr ⟨by omega,fun hx=>by have:=hx2 v hx;omega⟩
 ·intro v hv
  rcases z6 v hv with h|h
  ·exact .inl h
  ·exact .inr ⟨by omega,fun hx=>by have:=hx2 v hx;omega,fun hy=>by have:=hy2 v hy;omega⟩
def minBitsZ (n L:Nat):Nat:=if (n-1).log2+1<(L-1).log2+2 then (n-1).log2+1 else (L-1).log2+2
theorem c135 {w:World} {b n L:Nat} {s:FS} {K:Int→PT} (HB:Blk w b s.at) (hbr:s.br.l=n) (hof:s.brOff=0) (hL:s.symL=(L:Nat)) (hn2:2≤n) (hn:n<65536) (hL2:2≤L) (hL3:L≤256)
  (hk:∀w',Fm w w' []→K (minBitsZ n L:Nat) w'):callP Tryd.prog 135 #[.pointer (some ⟨b,0,none⟩)] [.c (.I .u8)] K w:=by
 apply q135_ok
 unfold q135
 simp only [add_mk,Nat.zero_add]
 refine ld2_b (t := .S) (u := .I .i64) (x:=s.br) (y:=((0:Nat):Int)) HB rfl (by show some (Value.int .i64 s.brOff)=_;rw [hof];rfl) ?_
 refine c93 (s:=s.br) (n:=0) (by omega) (by omega) ?_
 intro w2 F2
 rw [hbr,Nat.sub_zero]
 have e1:IntKind.u32.wrap (IntKind.i64.wrap (((n:Nat):Int)-1))=((n-1:Nat):Int):=by rw [wI64 (by omega) (by omega),wU32 (by omega) (by omega)];omega
 rw [e1]
 refine c98 (by omega) (by omega) ?_
 have B2:=HB.fr F2 (by simp)
 refine ld_b (t := .I .u16) (x:=((L:Nat):Int)) B2 (by show some (Value.int .u16 s.symL)=_;rw [hL];rfl) ?_
 have e2:IntKind.u32.wrap (IntKind.u16.wrap (((L:Nat):Int)-1))=((L-1:Nat):Int):=by rw [wU16 (by omega) (by omega),wU32 (by omega) (by omega)];omega
 rw [e2]
 refine c98 (by omega) (by omega) ?_
 have l1:(n-1).log2<16:=(Nat.log2_lt (by omega)).mpr (by omega)
 have l2:(L-1).log2<8:=(Nat.log2_lt (by omega)).mpr (by omega)
 rw [wU32 (x:=(((n-1).log2:Nat):Int)+1) (by omega) (by omega),wU32 (x:=(((L-1).log2:Nat):Int)+2) (by omega) (by omega),wU8 (x:=(((n-1).log2:Nat):Int)+1) (by omega) (by omega),wU8 (x:=(((L-1).log2:Nat):Int)+2) (by omega) (by omega)]
 unfold minBitsZ at hk
 refine cnd_d ?_ ?_
 ·intro hc
  rw [if_pos (by omega)] at hk
  have:=hk w2 F2
  rw [Int.natCast_add] at this
  exact this
 ·intro hc
  rw [if_neg (by omega)] at hk
  have:=hk w2 F2
  rw [Int.natCast_add] at this
  exact this
def tlX (n:Nat):Nat:=if (n-1).log2<2 then 6 else (n-1).log2-2
def tlZ (n L:Nat):Nat:=max 5 (max (tlX n) (minBitsZ n L))
theorem c110 {w:World} {b n L:Nat} {s:FS} {K:Unit→PT} (HB:Blk w b s.at) (hbr:s.br.l=n) (hof:s.brOff=0) (hL:s.symL=(L:Nat)) (htl:s.tl=6) (hn2:2≤n) (hn:n<256) (hL2:2≤L) (hL3:L≤13)
  (hk:∀w' T,T=tlZ n L→LogOK T→(T=6→n≤4)→Blk w' b ({ s with atl:=(T:Nat) } : FS).at→Fm w w' [b]→K () w'):callP Tryd.prog 110 #[.pointer (some ⟨b,0,none⟩)] [] K w:=by
 apply q110_ok
 unfold q110
 simp only [add_mk,Nat.zero_add]
 refine ld_b (t := .I .u8) (x:=(6:Int)) HB (by show some (Value.int .u8 s.tl)=_;rw [htl];rfl) ?_
 refine c135 HB hbr hof hL hn2 (by omega) hL2 (by omega) ?_
 intro w2 F2
 have B2:=HB.fr F2 (by simp)
 refine ld2_b (t := .S) (u := .I .i64) (x:=s.br) (y:=((0:Nat):Int)) B2 rfl (by show some (Value.int .i64 s.brOff)=_;rw [hof];rfl) ?_
 refine c93 (s:=s.br) (n:=0) (by omega) (by omega) ?_
 intro w3 F3
 have B3:=B2.fr F3 (by simp)
 rw [hbr,Nat.sub_zero]
 have e1:IntKind.u32.wrap (IntKind.i64.wrap (((n:Nat):Int)-1))=((n-1:Nat):Int):=by rw [wI64 (by omega) (by omega),wU32 (by omega) (by omega)];omega
 rw [e1]
 refine c98 (by omega) (by omega) ?_
 have l1:(n-1).log2<8:=(Nat.log2_lt (by omega)).mpr (by omega)
 have l2:(L-1).log2<4:=(Nat.log2_lt (by omega)).mpr (by omega)
 have l3:(n-1).log2<2→n≤4:=by intro h;have:=(Nat.log2_lt (by omega)).mp h;omega
 have hmb:minBitsZ n L≤5:=by unfold minBitsZ;split<;>omega
 have e2:IntKind.u8.wrap (((n-1).log2:Nat):Int)=(((n-1).log2:Nat):Int):=wU8 (by omega) (by omega)
 rw [e2]
 have F13:Fm w w3 [b]:=(F2.mono (by simp)).trans F3 (by simp)
 have fin:∀x:Nat,(x≤5∨(x=6∧n≤4))→x=tlX n→q110_J3 ⟨b,0,none⟩ K (minBitsZ n L:Nat) (x:Nat) w3:=by
  intro x hx hxe
  have last:∀T:Nat,LogOK T→(T=6→n≤4)→T=tlZ n L→q110_J1 ⟨b,0,none⟩ K (T:Nat) w3:=by
   intro T hT h6 hTe
   have hTp:=hT.pow
   unfold q110_J1 q110_J0
   refine joinP_id (cnd_d (fun h=>by omega) (fun h => ?_))
   simp only [add_mk,Nat.zero_add]
   refine st_b B3 rfl rfl ?_
   exact hk _ T hTe hT h6 (B3.setW rfl (FS.setT 17 rfl rfl rfl (by decide))) (F13.set (.inl (by simp)))
  have mid:∀y:Nat,(y≤5∨(y=6∧n≤4))→y=max x (minBitsZ n L)→q110_J2 ⟨b,0,none⟩ K (y:Nat) w3:=by
   intro y hy hye
   have hz:tlZ n L=max 5 y:=by unfold tlZ;rw [←hxe,hye]
   unfold q110_J2
   refine joinP_id (cnd_d (fun h => ?_) (fun h => ?_))
   ·exact last 5 (.inl rfl) (by omega) (by rw [hz];omega)
   ·exact last y (by rcases hy with h1|h1;exact .inl (by omega);exact .inr h1.1) (by omega) (by rw [hz];omega)
  unfold q110_J3
  refine joinP_id (cnd_d (fun h => ?_) (fun h => ?_))
  ·exact mid _ (.inl hmb) (by omega)
  ·exact mid x hx (by omega)
 refine joinP_id (cnd_d ?_ ?_)
 ·intro hc
  by_cases h:(n-1).log2<2
  ·have:IntKind.u8.wrap ((((n-1).log2:Nat):Int)-2)=(((n-1).log2:Nat):Int)+254:=by rw [IntKind.wrap_u8];omega
   omega
  ·rw [wU8 (by omega) (by omega),show (((n-1).log2:Nat):Int)-2=(((n-1).log2-2:Nat):Int) by omega]
   exact fin _ (by omega) (by unfold tlX;rw [if_neg h])
 ·intro hc
  by_cases h:(n-1).log2<2
  ·exact fin 6 (.inr ⟨rfl,l3 h⟩) (by unfold tlX;rw [if_pos h])
  ·rw [wU8 (by omega) (by omega)] at hc
   omega
theorem c92 {w:World} {b:Nat} {s:FS} {x:Sl} {K:Unit→PT} (HB:Blk w b s.at) (hk:∀w',Blk w' b ({ s with br:=x,brOff:=0 } : FS).at→Fm w w' [b]→K () w') :
  callP Tryd.prog 92 #[.pointer (some ⟨b,512,none⟩),.slice x.a x.l x.c] [] K w:=by
 apply q92_ok
 unfold q92
 simp only [add_mk]
 refine st_b HB rfl rfl ?_
 have B1:=HB.setW (o:=512) (v := .slice x.a x.l x.c) (g:=({ s with br:=x } : FS).at) rfl (FS.setT 0 rfl rfl rfl (by decide))
 have F1:=(Fm.refl w [b]).set (a:=⟨b,512,none⟩) (v := .slice x.a x.l x.c) (.inl (by simp))
 generalize w.setCell ⟨b,512,none⟩ (.slice x.a x.l x.c)=w2 at *
 refine st_b B1 rfl rfl ?_
 exact hk _ (B1.setW rfl (FS.setT 1 rfl rfl rfl (by decide))) (F1.set (.inl (by simp)))
theorem c77 {w:World} {b:Nat} {s:FS} {x:Sl} {K:Option Addr×Value→PT} (HB:Blk w b s.at) (htl:s.tl=6) (hm:s.maxC≠0) (hx:x.l<2^40)
  (hk:∀(w':World) (s':FS),s'.count=s.count→s'.norm=s.norm→s'.br=x→s'.brOff=0→s'.ts=s.ts→s'.st=s.st→s'.tt=s.tt→s'.dt=s.dt→s'.maxC=s.maxC→s'.symL=s.symL→s'.tl=6→Blk w' b s'.at→Fm w w' [b] →
   (s'.out=s.out∨(s.out.c=0∧s'.out.l=0∧Vec 1 w' s'.out []∧∀v∈s'.out.bs,w.heap.size≤v))→K (some ⟨b,0,none⟩,.nilIface) w') :
  callP Tryd.prog 77 #[.pointer (some ⟨b,0,none⟩),.slice x.a x.l x.c] [.c .P,.c .V] K w:=by
 apply q77_ok
 unfold q77
 have hbl:=HB.lt
 refine joinP_id ⟨by simp,fun _ => ?_⟩
 unfold q77_J7
 simp only [add_mk,Nat.zero_add]
 have rest:∀(w2:World) (m:Int),Blk w2 b ({ s with msv:=m } : FS).at→Fm w w2 [b]→q77_J6 x K ⟨b,0,none⟩ () w2:=by
  intro w2 m B2 F2
  unfold q77_J6
  simp only [add_mk,Nat.zero_add]
  have ht:({ s with msv:=m } : FS).at 533=some (.int .u8 6):=by show some (Value.int .u8 s.tl)=_;rw [htl]
  refine joinP_id (ld_b (t := .I .u8) (x:=(6:Int)) B2 ht (cnd_d (fun h=>absurd h (by decide)) fun _ => ?_))
  unfold q77_J5
  simp only [add_mk,Nat.zero_add]
  refine ld_b (t := .I .u8) (x:=(6:Int)) B2 ht (cnd_d (fun h=>absurd h (by decide)) fun _ => ?_)
  have rest2:∀(w3:World) (o:Sl),Blk w3 b ({ s with msv:=m,out:=o } : FS).at→Fm w w3 [b]→(o=s.out∨(s.out.c=0∧o.l=0∧Vec 1 w3 o []∧b∉o.bs∧∀v∈o.bs,w.heap.size≤v))→q77_J4 x K ⟨b,0,none⟩ () w3:=by
   intro w3 o B3 F3 ho
   unfold q77_J4
   simp only [add_mk,Nat.zero_add]
   have tail:q77_J3 x K ⟨b,0,none⟩ () w3:=by
    unfold q77_J3
    simp only [add_mk,Nat.zero_add]
    refine c92 B3 ?_
    intro w4 B4 F4
    refine joinP_id (ld_b (t := .I .i64) (x:=s.lim) B4 rfl (cnd_d (fun _ => ?_) fun _ => ?_))
    ·refine st_b B4 rfl rfl ?_
     have F5:=F4.set (a:=⟨b,527,none⟩) (v := .int .i64 2147483647) (.inl (by simp))
     refine hk _ ({ s with msv:=m,out:=o,br:=x,brOff:=0,lim:=2147483647 } : FS) rfl rfl rfl rfl rfl rfl rfl rfl rfl rfl htl (B4.setW (g:=({ s with msv:=m,out:=o,br:=x,brOff:=0,lim:=2147483647 } : FS).at) rfl (FS.setT 15 rfl rfl rfl (by decide))) (F3.trans F5 (fun x hx => .inl hx)) ?_
     rcases ho with h|⟨h1,h2,h3,h4,h5⟩
     ·exact .inl h
     ·exact .inr ⟨h1,h2,h3.fr F5 (by intro y hy;simp;intro e;exact h4 (e▸hy)),h5⟩
    ·refine hk _ ({ s with msv:=m,out:=o,br:=x,brOff:=0 } : FS) rfl rfl rfl rfl rfl rfl rfl rfl rfl rfl htl B4 (F3.trans F4 (fun x hx => .inl hx)) ?_
     rcases ho with h|⟨h1,h2,h3,h4,h5⟩
     ·exact .inl h
     ·exact .inr ⟨h1,h2,h3.fr F4 (by intro y hy;simp;intro e;exact h4 (e▸hy)),h5⟩
   refine joinP_id (ld_b (t := .B) (x:=s.cc) B3 rfl ⟨fun _ => ?_,fun _=>tail⟩)
   exact ld_b (t := .I .i64) (x:=s.maxC) B3 rfl (cnd_d (fun h=>absurd h hm) fun _=>tail)
  refine joinP_id (ld_b (t := .S) (x:=s.out) B2 rfl (cnd_d (fun hc => ?_) fun _ => ?_))
  ·refine ⟨0,x.l,rfl,rfl,Nat.zero_le _,by omega,?_⟩
   have F3:Fm w2 (w2.alloc (.cells (zrep z5 x.l) 5)) []:=(Fm.refl w2 []).alloc
   have B3:Blk (w2.alloc (.cells (zrep z5 x.l) 5)) w2.heap.size fun i=>(zrep z5 x.l)[i]? := Blk.new
   have hs:=F2.size
   refine st_b (B2.fr F3 (by simp)) rfl rfl ?_
   refine rest2 _ ⟨some ⟨w2.heap.size,0,none⟩,0,x.l⟩ ((B2.fr F3 (by simp)).setW rfl (FS.setT 14 rfl rfl rfl (by decide))) ((F2.trans F3 (by simp)).set (.inl (by simp))) (.inr ⟨by omega,rfl,⟨rfl,Nat.zero_le _,(fun h=>by cases h),?_⟩,by simp [Sl.bs];omega,by intro v hv;simp [Sl.bs] at hv;omega⟩)
   intro a ha
   injection ha with ha
   subst ha
   exact ⟨rfl,rfl,_,B3.other (by simp only;omega),by simp,fun i hi=>zrep_some z5 x.l i (by simpa [z5] using hi)⟩
  ·exact rest2 w2 s.out B2 F2 (.inl rfl)
 refine joinP_id (ld_b (t := .I .u8) (x:=s.msv) HB rfl (cnd_d (fun _ => ?_) fun _ => ?_))
 ·refine st_b HB rfl rfl ?_
  exact rest _ 255 (HB.setW rfl (FS.setT 20 rfl rfl rfl (by decide))) ((Fm.refl w [b]).set (.inl (by simp)))
 ·exact rest w s.msv HB (Fm.refl w _)
theorem st_u {w:World} {b o:Nat} {f:Cells} {v:Value} {κ:PT} (h:Blk w b f) (hx:(f o).isSome) (hv:one v=true) (hk:∀w',Blk w' b (updC f o v)→Fm w w' [b]→κ w'):st ⟨b,o,none⟩ v κ w :=
 st_b h hx hv (hk _ (h.set hx) ((Fm.refl w [b]).set (.inl (by simp))))
theorem nm1 {c b:Nat} (h:c≠b):c ∉ [b]:=by simpa using h
theorem slcA_hi {w:World} {b o n m:Nat} {i:Int} {κ:Sl→PT} (hi:i=n) (hn:n≤m) (hm:0<m) (h:κ ⟨some ⟨b,o,none⟩,n,m⟩ w):slcA 1 m ⟨b,o,none⟩ none (some i) none κ w:=by
 refine ⟨0,n,m,rfl,⟨hi,hn⟩,rfl,?_⟩
 rw [if_neg (by omega),Nat.zero_mul,add_mk,Nat.add_zero,Nat.sub_zero,Nat.sub_zero]
 exact h
theorem ixS_o {w:World} {b o l c k:Nat} {i:Int} {κ:Addr→PT} (hi:i=k) (hk:k<l) (h:κ ⟨b,o+k,none⟩ w):ixS 1 ⟨some ⟨b,o,none⟩,l,c⟩ i κ w:=by
 refine ixS_b rfl hi hk ?_
 rw [Nat.mul_one]
 exact h
theorem ixA_o {w:World} {n b o k:Nat} {i:Int} {κ:Addr→PT} (hi:i=k) (hk:k<n) (h:κ ⟨b,o+k,none⟩ w):ixA 1 n ⟨b,o,none⟩ i κ w:=by
 refine ixA_b hi hk ?_
 rw [Nat.mul_one]
 exact h
def Som (n:Nat) (F:Cells):Prop:=∀i,i<n→(F i).isSome
theorem Som.upd {n o:Nat} {F:Cells} {v:Value} (h:Som n F):Som n (updC F o v):=by
 intro i hi
 unfold updC
 split
 ·rfl
 ·exact h i hi
theorem Own.out {sz n:Nat} {w:World} {s:Sl} (h:Own sz w s) (ha:s.a.isSome) (hl:s.l=n):∃tb F,s=⟨some ⟨tb,0,Option.none⟩,n,s.c⟩∧Blk w tb F∧Som (s.c*sz) F∧n≤s.c:=by
 obtain ⟨a,l,c⟩:=s
 subst hl
 cases a with
 | none=>cases ha
 | some a =>
  obtain ⟨h1,h2,F,h3,h4⟩:=h.2.2 a rfl
  obtain ⟨tb,o,sp⟩:=a
  simp only at h1 h2
  subst h1 h2
  exact ⟨tb,F,rfl,h3,h4,h.1⟩
theorem Own.of {sz n c tb:Nat} {w:World} {F:Cells} (h:Blk w tb F) (hs:Som (c*sz) F) (hn:n≤c):Own sz w ⟨some ⟨tb,0,Option.none⟩,n,c⟩:=by
 refine ⟨hn,(fun h=>by cases h),?_⟩
 intro a ha
 injection ha with ha
 subst ha
 exact ⟨rfl,rfl,F,h,hs⟩
def Lays (sz:Nat) (F:Cells) (φ:Nat→Int):Prop:=∀p,p<sz→0≤φ p→F p=some (.int .u8 (φ p))
theorem Lays.upd {sz p:Nat} {F:Cells} {φ:Nat→Int} {v:Int} (h:Lays sz F φ):Lays sz (updC F p (.int .u8 v)) (updF φ p v):=by
 intro q hq
 unfold updC updF
 by_cases e:q=p
 ·rw [if_pos e,if_pos e];exact fun _=>rfl
 ·rw [if_neg e,if_neg e];exact h q hq
def cumZ (ns:List Int) (i:Nat):Nat:=sumZ (ns.take i)
theorem cumZ_succ {ns:List Int} {i:Nat} (h:i<ns.length):cumZ ns (i+1)=cumZ ns i+absZ ns[i]:=sumZ_take h
theorem cumZ_le (ns:List Int) (i:Nat):cumZ ns i≤sumZ ns:=by
 have h:sumZ (ns.take i++ns.drop i)=sumZ (ns.take i)+sumZ (ns.drop i):=by unfold sumZ;rw [List.map_append,List.sum_append]
 rw [List.take_append_drop] at h
 unfold cumZ
 omega
theorem cumZ_mono (ns:List Int) {i j:Nat} (h:i≤j):cumZ ns i≤cumZ ns j:=by
 have:=cumZ_le (ns.take j) i
 unfold cumZ at this ⊢
 rw [List.take_take,Nat.min_eq_left h] at this
 exact this
theorem cumZ_all (ns:List Int):cumZ ns ns.length=sumZ ns:=by unfold cumZ;rw [List.take_length]
structure NS (S:FS) (ns:List Int) (T L:Nat):Prop where
 log:LogOK T
 atl:S.atl=(T:Nat)
 symL:S.symL=(L:Nat)
 len:ns.length=L
 l2:2≤L
 l13:L≤13
 nrm:∀i (h:i<ns.length),S.norm i=ns[i]
 rng:∀c∈ns, -1≤c
 sum:sumZ ns=2^T
theorem NS.at {S:FS} {ns:List Int} {T L i:Nat} (h:NS S ns T L) (hi:i<ns.length):S.at (256+i)=some (.int .i16 ns[i]):=by
 have:=h.l13
 have:=h.len
 rw [FS.norm_at _ (by omega),h.nrm i hi]
theorem NS.bnd {S:FS} {ns:List Int} {T L i:Nat} (h:NS S ns T L) (hi:i<ns.length) : -1≤ns[i]∧ns[i]≤64:=by
 have h1:=h.rng _ (List.getElem_mem hi)
 have h2:=absZ_le_sum hi
 have h3:=h.sum
 have h4:=h.log.pow
 unfold absZ at h2
 split at h2<;>omega
section
variable {T L:Nat} {w:World} {b c tb cap:Nat} {S:FS} {ns:List Int} {G:Nat→Int} {F:Cells}
theorem bt1 {K:Int→PT} (H:NS S ns T L) (HB:Blk w b S.at) (HC:Blk w c (arrC .i16 257 G)) (hG0:G 0=0) (HT:Blk w tb F) (hF:Som cap F) (hcap:2^T≤cap) (dbc:b≠c) (dbt:b≠tb) (dct:c≠tb)
  (hk:∀w' e φ G' F',e≤2^T→lowZ (ns.drop (L-1)) (L-1) e φ=lowZ ns 0 (2^T) (fun _ => -1)→2^T≤e+(L-1)→(∀j,j≤L-1→G' j=((cumZ ns j:Nat):Int))→Blk w' c (arrC .i16 257 G')→Blk w' tb F'→Som cap F'→Lays (2^T) F' φ→Fm w w' [c,tb]→K ((e:Int)-1) w') :
  loopP ((((2^T:Nat):Int)-1),(0:Int)) (q113_L2 ⟨c,0,none⟩ ⟨some ⟨tb,0,none⟩,2^T,cap⟩ K ⟨some ⟨b,256,none⟩,L-1,256⟩) w:=by
 have hTp:=H.log.pow
 have hlen:=H.len
 have hl2:=H.l2
 have hl13:=H.l13
 refine ⟨fun x w'=>∃(e i:Nat) (φ G':Nat→Int) (F':Cells),x=((e:Int)-1,(i:Int))∧i≤L-1∧e≤2^T∧2^T≤e+i∧lowZ (ns.drop i) i e φ=lowZ ns 0 (2^T) (fun _ => -1)∧(∀j,j≤i→G' j=((cumZ ns j:Nat):Int)) ∧
   Blk w' c (arrC .i16 257 G')∧Blk w' tb F'∧Som cap F'∧Lays (2^T) F' φ∧Fm w w' [c,tb],fun x _=>L-x.2.toNat,
  ⟨2^T,0,_,G,F,rfl,Nat.zero_le _,Nat.le_refl _,Nat.le_refl _,rfl,?_,HC,HT,hF,?_,Fm.refl _ _⟩,?_⟩
 ·intro j hj
  have:j=0:=by omega
  subst this
  rw [hG0];rfl
 ·intro p hp h0;simp at h0
 rintro x w2 ⟨e,i,φ,G2,F2,rfl,hi,he,hei,hlow,hG2,HC2,HT2,hF2,hLy,Fr⟩
 unfold q113_L2
 simp only
 refine cnd_d ?_ ?_
 ·intro hc
  have hi2:i<L-1:=by omega
  have hi3:i<ns.length:=by omega
  have HB2:Blk w2 b S.at:=HB.fr Fr (by simp;exact ⟨dbc,dbt⟩)
  have hbn:=H.bnd hi3
  have hcum:=cumZ_succ hi3
  have hcl:=cumZ_le ns i
  have hsum:=H.sum
  have hGi:=hG2 i (Nat.le_refl _)
  refine joinP_id ?_
  unfold q113_X1 q113_J0
  simp only
  refine ixS_o rfl hi2 ?_
  refine ld_b (t := .I .i16) (x:=ns[i]) HB2 (H.at hi3) ?_
  have e8:IntKind.u8.wrap (i:Int)=(i:Int):=wU8 (by omega) (by omega)
  have e8':IntKind.u8.wrap ((i:Int)+1)=((i+1:Nat):Int):=by rw [wU8 (by omega) (by omega)];omega
  have e64:IntKind.i64.wrap ((i:Int)+1)=((i+1:Nat):Int):=by rw [wI64 (by omega) (by omega)];omega
  rw [e8,e8',e64]
  rw [drop_cons hi3,lowZ] at hlow
  unfold absZ at hcum
  refine cnd_d ?_ ?_
  ·intro hm1
   rw [if_pos ⟨hm1,by omega⟩] at hlow
   rw [if_pos (by omega)] at hcum
   refine ixA_o rfl (by omega) ?_
   rw [Nat.zero_add]
   refine ld_b (t := .I .i16) (x:=G2 i) HC2 (arrC_get (by omega)) ?_
   refine ixA_o rfl (by omega) ?_
   rw [Nat.zero_add]
   refine st_u HC2 (by rw [arrC_get (by omega)];rfl) rfl ?_
   intro w3 HC3 F3
   rw [arrC_upd (by omega)] at HC3
   have HT3:=HT2.fr F3 (nm1 dct.symm)
   refine ixS_o (k:=e-1) (by omega) (by omega) ?_
   rw [Nat.zero_add]
   refine st_u HT3 (hF2 _ (by omega)) rfl ?_
   intro w4 HT4 F4
   rw [wU32 (by omega) (by omega)]
   refine ⟨⟨e-1,i+1,updF φ (e-1) i,_,_,?_,by omega,by omega,by omega,hlow,?_,HC3.fr F4 (nm1 dct),HT4,hF2.upd,hLy.upd,?_⟩,?_⟩
   ·rw [show ((e-1:Nat):Int)=(e:Int)-1 by omega]
   ·intro j hj
    unfold updF
    split
    ·subst_vars
     rw [hGi,wI16 (by omega) (by omega)];omega
    ·exact hG2 j (by omega)
   ·exact (Fr.trans F3 (by intro v hv;simp at hv;simp [hv])).trans F4 (by intro v hv;simp at hv;simp [hv])
   ·simp only [Int.toNat_natCast];omega
  ·intro hm1
   rw [if_neg (fun h=>hm1 h.1)] at hlow
   rw [if_neg (by omega)] at hcum
   refine ixA_o rfl (by omega) ?_
   rw [Nat.zero_add]
   refine ld_b (t := .I .i16) (x:=G2 i) HC2 (arrC_get (by omega)) ?_
   refine ixA_o rfl (by omega) ?_
   rw [Nat.zero_add]
   refine st_u HC2 (by rw [arrC_get (by omega)];rfl) rfl ?_
   intro w3 HC3 F3
   rw [arrC_upd (by omega)] at HC3
   refine ⟨⟨e,i+1,φ,_,_,rfl,by omega,by omega,by omega,hlow,?_,HC3,HT2.fr F3 (nm1 dct.symm),hF2,hLy,?_⟩,?_⟩
   ·intro j hj
    unfold updF
    split
    ·subst_vars
     rw [hGi,wI16 (by omega) (by omega)];omega
    ·exact hG2 j (by omega)
   ·exact Fr.trans F3 (by intro v hv;simp at hv;simp [hv])
   ·simp only [Int.toNat_natCast];omega
 ·intro hc
  have hi2:i=L-1:=by omega
  subst hi2
  exact hk w2 e φ G2 F2 he hlow hei hG2 HC2 HT2 hF2 hLy Fr
end
theorem sh32 {T:Nat} (hT:LogOK T):shlI .u32 1 ((T:Nat):Int)=((2^T:Nat):Int):=by rcases hT with rfl|rfl<;>rfl
theorem sh16 {T:Nat} (hT:LogOK T):shlI .i16 1 ((T:Nat):Int)=((2^T:Nat):Int):=by rcases hT with rfl|rfl<;>rfl
theorem sh64 {T:Nat} (hT:LogOK T):shlI .i64 1 ((T:Nat):Int)=((2^T:Nat):Int):=by rcases hT with rfl|rfl<;>rfl
theorem and_mask {T:Nat} (hT:LogOK T) (a:Nat) (ha:a<2^31):andI .u32 (a:Int) ((2^T-1:Nat):Int)=((a%2^T:Nat):Int):=by
 have hp:=hT.pow
 have:=andI_nat (k := .u32) rfl a (2^T-1) (by simp only [IntKind.bits];omega) (by simp only [IntKind.bits];omega)
 rw [Nat.and_two_pow_sub_one_eq_mod] at this
 exact this
theorem NS.zb {S:FS} {ns:List Int} {T L:Nat} (H:NS S ns T L) (z:Bool):NS { S with zb:=z } ns T L:=⟨H.log,H.atl,H.symL,H.len,H.l2,H.l13,H.nrm,H.rng,H.sum⟩
theorem NS.symAt {S:FS} {ns:List Int} {T L:Nat} (H:NS S ns T L):S.at 528=some (.int .u16 (L:Nat)):=by show some (Value.int .u16 S.symL)=_;rw [H.symL]
theorem NS.atlAt {S:FS} {ns:List Int} {T L:Nat} (H:NS S ns T L):S.at 529=some (.int .u8 (T:Nat)):=by show some (Value.int .u8 S.atl)=_;rw [H.atl]
section
variable {T L:Nat} {w:World} {b c tb cap:Nat} {S:FS} {ns:List Int} {G:Nat→Int} {F:Cells}
theorem bt2 {K1:Value→PT} {R7:Int→PT} {e:Nat} {φ:Nat→Int} (H:NS S ns T L) (HB:Blk w b S.at) (HC:Blk w c (arrC .i16 257 G)) (hG:∀j,j≤L-1→G j=((cumZ ns j:Nat):Int)) (HT:Blk w tb F) (hF:Som cap F) (hcap:2^T≤cap) (hLy:Lays (2^T) F φ)
  (he:e≤2^T) (hlow:lowZ (ns.drop (L-1)) (L-1) e φ=lowZ ns 0 (2^T) (fun _ => -1)) (hei:2^T≤e+(L-1)) (dbc:b≠c) (dbt:b≠tb) (dct:c≠tb)
  (hk:∀w' e' φ' G' F',(φ',e')=lowZ ns 0 (2^T) (fun _ => -1)→0<e'→e'≤2^T→(∀j,j<L→G' j=((cumZ ns j:Nat):Int))→Blk w' c (arrC .i16 257 G')→Blk w' tb F'→Som cap F'→Lays (2^T) F' φ'→Fm w w' [c,tb]→R7 ((e':Int)-1) w') :
  q113_J5 ⟨b,0,none⟩ K1 (T:Int) ⟨c,0,none⟩ ⟨some ⟨tb,0,none⟩,2^T,cap⟩ R7 ((e:Int)-1) w:=by
 have hTp:=H.log.pow
 have hlen:=H.len
 have hl2:=H.l2
 have hl13:=H.l13
 have hL1:L-1<ns.length:=by omega
 have hbn:=H.bnd hL1
 have hcum:=cumZ_succ hL1
 have hall:=cumZ_all ns
 have hsum:=H.sum
 have hcl:=cumZ_le ns (L-1)
 have hGi:=hG (L-1) (Nat.le_refl _)
 rw [show L-1+1=ns.length by omega,hall,hsum] at hcum
 have tail:∀(w3:World) (e':Nat) (φ' G':Nat→Int) (F':Cells),(φ',e')=lowZ ns 0 (2^T) (fun _ => -1)→0<e'→e'≤2^T→(∀j,j≤L→G' j=((cumZ ns j:Nat):Int))→Blk w3 c (arrC .i16 257 G')→Blk w3 tb F'→Som cap F'→Lays (2^T) F' φ'→Fm w w3 [c,tb] →
   q113_J3 ⟨b,0,none⟩ K1 (T:Int) ⟨c,0,none⟩ R7 ((e':Int)-1) w3:=by
  intro w3 e' φ' G' F' h1 h2 h3 h4 HC3 HT3 hF3 hL3 Fr
  have HB3:Blk w3 b S.at:=HB.fr Fr (by simp;exact ⟨dbc,dbt⟩)
  unfold q113_J3
  simp only [add_mk,Nat.zero_add]
  refine ld_b (t := .I .u16) (x:=((L:Nat):Int)) HB3 H.symAt ?_
  refine ixA_o rfl (by omega) ?_
  rw [Nat.zero_add]
  refine ld_b (t := .I .i16) (x:=G' L) HC3 (arrC_get (by omega)) ?_
  rw [sh32 H.log,h4 L (Nat.le_refl _), ←hlen,hall,hsum,wU32 (by omega) (by omega)]
  refine cnd_nd (fun h=>absurd rfl h) (fun _ => ?_)
  refine ld_b (t := .I .u16) (x:=((L:Nat):Int)) HB3 H.symAt ?_
  refine ixA_o rfl (by omega) ?_
  rw [Nat.zero_add]
  refine st_u HC3 (by rw [arrC_get (by omega)];rfl) rfl ?_
  intro w4 HC4 F4
  rw [arrC_upd (by omega)] at HC4
  refine hk w4 e' φ' _ F' h1 h2 h3 ?_ HC4 (HT3.fr F4 (nm1 dct.symm)) hF3 hL3 (Fr.trans F4 (by intro v hv;simp at hv;simp [hv]))
  intro j hj
  unfold updF
  rw [if_neg (by omega)]
  exact h4 j (by omega)
 unfold q113_J5
 simp only [add_mk,Nat.zero_add]
 refine ld_b (t := .I .u16) (x:=((L:Nat):Int)) HB H.symAt ?_
 unfold drw
 refine ld_b (t := .I .u16) (x:=((L:Nat):Int)) HB.drew H.symAt ?_
 have eL:IntKind.u16.wrap (((L:Nat):Int)-1)=((L-1:Nat):Int):=by rw [wU16 (by omega) (by omega)];omega
 rw [eL]
 refine ixA_o rfl (by omega) ?_
 refine ld_b (t := .I .i16) (x:=ns[L-1]) HB.drew (H.at hL1) ?_
 refine joinP_id ?_
 unfold q113_X4
 have e1:IntKind.i64.wrap ((L-1:Nat):Int)=((L-1:Nat):Int):=wI64 (by omega) (by omega)
 have e2:IntKind.i64.wrap (((L-1:Nat):Int)+1)=((L:Nat):Int):=by rw [wI64 (by omega) (by omega)];omega
 have e3:IntKind.u8.wrap ((L-1:Nat):Int)=((L-1:Nat):Int):=wU8 (by omega) (by omega)
 rw [eL,e1,e2,e3]
 rw [drop_cons hL1,lowZ,List.drop_eq_nil_of_le (by omega)] at hlow
 unfold absZ at hcum
 have D:Fm w w.drew [c,tb]:=(Fm.refl _ _).drew
 have HC1:=HC.drew
 have HT1:=HT.drew
 refine cnd_d ?_ ?_
 ·intro hm1
  rw [if_pos ⟨hm1,by omega⟩] at hlow
  rw [if_pos (by omega)] at hcum
  refine ixA_o rfl (by omega) ?_
  rw [Nat.zero_add]
  refine ld_b (t := .I .i16) (x:=G (L-1)) HC1 (arrC_get (by omega)) ?_
  refine ixA_o rfl (by omega) ?_
  rw [Nat.zero_add]
  refine st_u HC1 (by rw [arrC_get (by omega)];rfl) rfl ?_
  intro w3 HC3 F3
  rw [arrC_upd (by omega)] at HC3
  refine ixS_o (k:=e-1) (by omega) (by omega) ?_
  rw [Nat.zero_add]
  refine st_u (HT1.fr F3 (nm1 dct.symm)) (hF _ (by omega)) rfl ?_
  intro w4 HT4 F4
  rw [wU32 (by omega) (by omega),show (e:Int)-1-1=((e-1:Nat):Int)-1 by omega]
  refine tail w4 (e-1) _ _ _ hlow (by omega) (by omega) ?_ (HC3.fr F4 (nm1 dct)) HT4 hF.upd hLy.upd ((D.trans F3 (by intro v hv;simp at hv;simp [hv])).trans F4 (by intro v hv;simp at hv;simp [hv]))
  intro j hj
  unfold updF
  split
  ·subst_vars
   rw [hGi,wI16 (by omega) (by omega),hall];omega
  ·exact hG j (by omega)
 ·intro hm1
  rw [if_neg (fun h=>hm1 h.1)] at hlow
  rw [if_neg (by omega)] at hcum
  refine ixA_o rfl (by omega) ?_
  rw [Nat.zero_add]
  refine ld_b (t := .I .i16) (x:=G (L-1)) HC1 (arrC_get (by omega)) ?_
  refine ixA_o rfl (by omega) ?_
  rw [Nat.zero_add]
  refine st_u HC1 (by rw [arrC_get (by omega)];rfl) rfl ?_
  intro w3 HC3 F3
  rw [arrC_upd (by omega)] at HC3
  refine tail w3 e _ _ _ hlow (by omega) (by omega) ?_ HC3 (HT1.fr F3 (nm1 dct.symm)) hF hLy (D.trans F3 (by intro v hv;simp at hv;simp [hv]))
  intro j hj
  unfold updF
  split
  ·subst_vars
   rw [hGi,wI16 (by omega) (by omega),hall];omega
  ·exact hG j (by omega)
theorem bt3 {K1:Value→PT} {R46:Unit→PT} {e:Nat} {φ f:Nat→Int} (H:NS S ns T L) (HB:Blk w b S.at) (HT:Blk w tb F) (hF:Som cap F) (hcap:2^T≤cap) (hLy:Lays (2^T) F φ) (dbt:b≠tb)
  (he0:0<e) (he:e≤2^T) (hsp:layZ (2^T) e (symsZ ns 0) 0 φ=some (f,0))
  (hk:∀w' zz F',Blk w' b ({ S with zb:=zz } : FS).at→Blk w' tb F'→Som cap F'→Lays (2^T) F' f→Fm w w' [b,tb]→R46 () w') :
  q113_X22 ⟨b,0,none⟩ K1 (T:Int) ⟨some ⟨tb,0,none⟩,2^T,cap⟩ ((e:Int)-1) R46 w:=by
 have hTp:=H.log.pow
 have hlen:=H.len
 have hl2:=H.l2
 have hl13:=H.l13
 have hsz:2^T=32∨2^T=64:=by omega
 have hst:stepOf (2^T)<100:=by unfold stepOf;omega
 unfold q113_X22
 rw [sh32 H.log]
 refine c97 (by omega) ?_
 simp only [add_mk,Nat.zero_add]
 refine ld_b (t := .I .u8) (x:=((T:Nat):Int)) HB H.atlAt ⟨by rw [wU8 (by omega) (by omega)];omega,?_⟩
 refine joinP_id ?_
 unfold drw
 refine ld_b (t := .I .u16) (x:=((L:Nat):Int)) HB.drew H.symAt ?_
 refine slcA_hi rfl (by omega) (by omega) ?_
 refine ⟨fun x w'=>∃(a i:Nat) (φ':Nat→Int) (F':Cells) (zz:Bool),x=((a:Int),(i:Int))∧i≤L∧a<2^T∧layZ (2^T) e (symsZ (ns.drop i) i) a φ'=some (f,0)∧Blk w' b ({ S with zb:=zz } : FS).at∧Blk w' tb F'∧Som cap F'∧Lays (2^T) F' φ'∧Fm w w' [b,tb],
  fun x _=>L-x.2.toNat,⟨0,0,φ,F,S.zb,rfl,Nat.zero_le _,by omega,hsp,HB.drew,HT.drew,hF,hLy,(Fm.refl _ _).drew⟩,?_⟩
 rintro x w2 ⟨a,i,φ2,F2,zz,rfl,hi,ha,hlay,HB2,HT2,hF2,hL2,Fr⟩
 unfold q113_L11
 simp only
 refine cnd_d ?_ ?_
 ·intro hc
  have hi3:i<ns.length:=by omega
  have hbn:=H.bnd hi3
  rw [drop_cons hi3,symsZ] at hlay
  refine joinP_id ?_
  refine ixS_o rfl (by omega) ?_
  refine ld_b (t := .I .i16) (x:=ns[i]) HB2 ((H.zb zz).at hi3) ?_
  generalize ns[i]=c at *
  refine ⟨fun _ w3=>∃zz',Blk w3 b ({ S with zb:=zz' } : FS).at∧Fm w2 w3 [b],?_,?_⟩
  ·rintro _ w3 ⟨zz3,HB3,F3⟩
   have HT3:=HT2.fr F3 (nm1 dbt.symm)
   have Fr3:Fm w w3 [b,tb]:=Fr.trans F3 (by intro v hv;simp at hv;simp [hv])
   unfold q113_J9
   simp only
   refine ⟨fun x w'=>∃(a k:Nat) (φ':Nat→Int) (F':Cells),x=((a:Int),(k:Int))∧k≤c.toNat∧a<2^T∧layZ (2^T) e (List.replicate (c.toNat-k) i++symsZ (ns.drop (i+1)) (i+1)) a φ'=some (f,0)∧Blk w' b ({ S with zb:=zz3 } : FS).at∧Blk w' tb F'∧Som cap F'∧Lays (2^T) F' φ'∧Fm w w' [b,tb],
    fun x _=>c.toNat-x.2.toNat,⟨a,0,φ2,F2,rfl,Nat.zero_le _,ha,hlay,HB3,HT3,hF2,hL2,Fr3⟩,?_⟩
   rintro x w4 ⟨a4,k,φ4,F4,rfl,hk4,ha4,hl4,HB4,HT4,hF4,hL4,Fr4⟩
   unfold q113_L8
   simp only
   refine cnd_d ?_ ?_
   ·intro hc2
    have hk2:k<c.toNat:=by omega
    rw [show c.toNat-k=(c.toNat-(k+1))+1 by omega,List.replicate_succ,List.cons_append,layZ] at hl4
    have hae:a4<e:=by
     by_cases h:e≤a4
     ·rw [if_pos h] at hl4;cases hl4
     ·omega
    rw [if_neg (by omega)] at hl4
    refine ⟨fun x w'=>∃F',x=((nxtZ (2^T) e a4:Nat):Int)∧nxtZ (2^T) e a4<2^T∧Blk w' b ({ S with zb:=zz3 } : FS).at∧Blk w' tb F'∧Som cap F'∧Lays (2^T) F' (updF φ4 a4 (i:Nat))∧Fm w w' [b,tb],?_,?_⟩
    ·rintro x w6 ⟨F6,rfl,hn6,HB6,HT6,hF6,hL6,Fr6⟩
     unfold q113_J7
     simp only
     rw [wI16 (by omega) (by omega)]
     exact ⟨⟨_,k+1,_,F6,by simp,by omega,hn6,hl4,HB6,HT6,hF6,hL6,Fr6⟩,by omega⟩
    ·refine ixS_o rfl ha4 ?_
     rw [Nat.zero_add]
     refine st_u HT4 (hF4 _ (by omega)) rfl ?_
     intro w6 HT6 F6
     rw [wU8 (x:=(i:Int)) (by omega) (by omega)] at HT6
     have HB6:=HB4.fr F6 (nm1 dbt)
     have Fr6:Fm w w6 [b,tb]:=Fr4.trans F6 (by intro v hv;simp at hv;simp [hv])
     have hstep:∀y:Nat,y<2^T→andI .u32 (IntKind.u32.wrap ((y:Int)+((stepOf (2^T):Nat):Int))) (IntKind.u32.wrap (shlI .u32 1 ((T:Nat):Int)-1))=(((y+stepOf (2^T))%2^T:Nat):Int):=by
      intro y hy
      have:=and_mask H.log (y+stepOf (2^T)) (by omega)
      rw [sh32 H.log,wU32 (by omega) (by omega),wU32 (by omega) (by omega),show (y:Int)+((stepOf (2^T):Nat):Int)=((y+stepOf (2^T):Nat):Int) by omega,show ((2^T:Nat):Int)-1=((2^T-1:Nat):Int) by omega]
      exact this
     rw [hstep a4 ha4]
     have hm:(a4+stepOf (2^T))%2^T<2^T:=Nat.mod_lt _ (by omega)
     refine ⟨fun x w'=>w'=w6∧∃a':Nat,x=(a':Int)∧a'<2^T∧nxtF (2^T) e (muZ (2^T) a') a'=nxtZ (2^T) e a4,fun x _=>muZ (2^T) x.toNat,⟨rfl,_,rfl,hm,rfl⟩,?_⟩
     rintro x w7 ⟨rfl,a7,rfl,ha7,hn7⟩
     unfold q113_L6
     simp only
     refine cnd_d ?_ ?_
     ·intro hc5
      rw [hstep a7 ha7]
      have hm7:=muZ_step (2^T) a7 hsz ha7 (by omega)
      refine ⟨⟨rfl,_,rfl,Nat.mod_lt _ (by omega),?_⟩,?_⟩
      ·rw [←hn7,hm7,nxtF,if_neg (by omega)]
      ·simp only [Int.toNat_natCast];omega
     ·intro hc5
      have hn8:nxtZ (2^T) e a4=a7:=by rw [←hn7,nxtF_lt (by omega)]
      rw [hn8]
      exact ⟨_,rfl,ha7,HB6,HT6,hF4.upd,hL4.upd,Fr6⟩
   ·intro hc2
    have hk2:k=c.toNat:=by omega
    rw [hk2,Nat.sub_self] at hl4
    unfold q113_J10
    simp only
    rw [wI64 (by omega) (by omega)]
    exact ⟨⟨a4,i+1,φ4,F4,zz3,by simp,by omega,ha4,hl4,HB4,HT4,hF4,hL4,Fr4⟩,by omega⟩
  ·refine cnd_d ?_ ?_
   ·intro hb
    simp only [add_mk,Nat.zero_add]
    refine st_u HB2 rfl rfl ?_
    intro w3 HB3 F3
    exact ⟨true,HB3.congr (FS.setT 18 rfl rfl rfl (by decide)),F3⟩
   ·intro hb
    exact ⟨zz,HB2,Fm.refl _ _⟩
 ·intro hc
  have hi2:i=ns.length:=by omega
  rw [hi2,List.drop_length,symsZ,layZ] at hlay
  injection hlay with hlay
  injection hlay with h1 h2
  subst h1 h2
  unfold q113_J12
  refine cnd_nd (fun h=>absurd rfl h) (fun _ => ?_)
  exact hk w2 zz F2 HB2 HT2 hF2 hL2 Fr
end
theorem cntZ_mono (f:Nat→Int) (s:Int) {a b:Nat} (h:a≤b):cntZ f s a≤cntZ f s b:=by
 induction b with
 | zero=>have:a=0:=(by omega);subst this;exact Nat.le_refl _
 | succ b ih =>
  by_cases e:a=b+1
  ·subst e;exact Nat.le_refl _
  ·have:=ih (by omega)
   rw [cntZ];omega
theorem shareZ_in {ns:List Int} {i:Nat} (h:i<ns.length):shareZ ns i=absZ ns[i]:=by unfold shareZ;rw [getD_Z h]
theorem shareZ_out {ns:List Int} {i:Nat} (h:ns.length≤i):shareZ ns i=0:=by unfold shareZ;rw [List.getD_eq_getElem?_getD,List.getElem?_eq_none h];rfl
theorem cumZ_share {ns:List Int} {i:Nat} (h:i<ns.length):cumZ ns (i+1)=cumZ ns i+shareZ ns i:=by rw [cumZ_succ h,shareZ_in h]
section
variable {T L:Nat} {w:World} {b c tb sb cap caps:Nat} {S:FS} {ns:List Int} {G:Nat→Int} {F Hs:Cells} {f:Nat→Int}
def StZ (ns:List Int) (T L u:Nat) (f:Nat→Int) (Hs:Cells):Prop:=∀s,s<L→∀j,j<cntZ f s u→Hs (cumZ ns s+j)=some (.int .u16 ((2^T+posZ (2^T) f s j:Nat):Int))
theorem bt4 {R71:Unit→PT} (H:NS S ns T L) (HC:Blk w c (arrC .i16 257 G)) (hG:∀j,j<L→G j=((cumZ ns j:Nat):Int)) (HT:Blk w tb F) (hLy:Lays (2^T) F f) (HS:Blk w sb Hs) (hS:Som caps Hs) (hcap:2^T≤caps) (dct:c≠tb) (dcs:c≠sb) (dts:tb≠sb)
  (hf:∀p,p<2^T→0≤f p∧f p<(L:Int)) (hcnt:∀s:Nat,cntZ f s (2^T)=shareZ ns s)
  (hk:∀w' G' Hs',Blk w' c (arrC .i16 257 G')→Blk w' sb Hs'→Som caps Hs'→StZ ns T L (2^T) f Hs'→Fm w w' [c,sb]→R71 () w') :
  loopP (0:Int) (q113_L13 (T:Int) ⟨c,0,none⟩ ⟨some ⟨tb,0,none⟩,2^T,cap⟩ ⟨some ⟨sb,0,none⟩,2^T,caps⟩ R71) w:=by
 have hTp:=H.log.pow
 have hlen:=H.len
 have hl2:=H.l2
 have hl13:=H.l13
 have hsum:=H.sum
 refine ⟨fun x w'=>∃(u:Nat) (G':Nat→Int) (Hs':Cells),x=(u:Int)∧u≤2^T∧(∀j:Nat,j<L→G' j=((cumZ ns j+cntZ f j u:Nat):Int))∧Blk w' c (arrC .i16 257 G')∧Blk w' sb Hs'∧Som caps Hs'∧StZ ns T L u f Hs'∧Fm w w' [c,sb],fun x _=>2^T-x.toNat,
  ⟨0,G,Hs,rfl,Nat.zero_le _,?_,HC,HS,hS,?_,Fm.refl _ _⟩,?_⟩
 ·intro j hj
  rw [hG j hj];rfl
 ·intro s _ j hj
  exact absurd hj (Nat.not_lt_zero _)
 rintro x w2 ⟨u,G2,H2,rfl,hu,hG2,HC2,HS2,hS2,hZ2,Fr⟩
 unfold q113_L13
 simp only
 refine cnd_d ?_ ?_
 ·intro hc
  have hu2:u<2^T:=by omega
  obtain ⟨f0,f1⟩:=hf u hu2
  obtain ⟨s,hs⟩:∃s:Nat,f u=(s:Int):=⟨(f u).toNat,by omega⟩
  have hsL:s<L:=by omega
  have hsn:s<ns.length:=by omega
  have hcs:cntZ f s (u+1)=cntZ f s u+1:=by rw [cntZ,if_pos hs]
  have hcm:=cntZ_mono f s (show u+1≤2^T by omega)
  have hcn:=hcnt s
  have hcu:=cumZ_share hsn
  have hcl:=cumZ_le ns (s+1)
  have HT2:Blk w2 tb F:=HT.fr Fr (by simp;exact ⟨dct.symm,dts⟩)
  refine ixS_o rfl hu2 ?_
  rw [Nat.zero_add]
  refine ld_b (t := .I .u8) (x:=(s:Int)) HT2 (by rw [hLy u hu2 f0,hs];rfl) ?_
  refine ixA_o rfl (by omega) ?_
  rw [Nat.zero_add]
  refine ld_b (t := .I .i16) (x:=((cumZ ns s+cntZ f s u:Nat):Int)) HC2 (by rw [arrC_get (by omega),hG2 s hsL];rfl) ?_
  refine ixS_o rfl (by omega) ?_
  rw [Nat.zero_add]
  refine st_u HS2 (hS2 _ (by omega)) rfl ?_
  intro w3 HS3 F3
  have ev:IntKind.u16.wrap (IntKind.i64.wrap (IntKind.i64.wrap (shlI .u32 1 ((T:Nat):Int))+(u:Int)))=((2^T+u:Nat):Int):=by
   rw [sh32 H.log,wI64 (x:=((2^T:Nat):Int)) (by omega) (by omega),wI64 (by omega) (by omega),wU16 (by omega) (by omega)];omega
  rw [ev] at HS3
  have HC3:=HC2.fr F3 (nm1 dcs)
  refine ixA_o rfl (by omega) ?_
  rw [Nat.zero_add]
  refine ld_b (t := .I .i16) (x:=((cumZ ns s+cntZ f s u:Nat):Int)) HC3 (by rw [arrC_get (by omega),hG2 s hsL];rfl) ?_
  refine ixA_o rfl (by omega) ?_
  rw [Nat.zero_add]
  refine st_u HC3 (by rw [arrC_get (by omega)];rfl) rfl ?_
  intro w4 HC4 F4
  rw [arrC_upd (by omega)] at HC4
  rw [wI64 (x:=(u:Int)+1) (by omega) (by omega)]
  refine ⟨⟨u+1,_,_,by simp,hu2,?_,HC4,HS3.fr F4 (nm1 dcs.symm),hS2.upd,?_,(Fr.trans F3 (by intro v hv;simp at hv;simp [hv])).trans F4 (by intro v hv;simp at hv;simp [hv])⟩,?_⟩
  ·intro j hj
   unfold updF
   split
   ·subst_vars
    rw [wI16 (by omega) (by omega),hcs];omega
   ·rename_i hne
    rw [hG2 j hj,cntZ,if_neg (by omega)];rfl
  ·intro s' hs' j hj
   unfold updC
   by_cases e:s'=s
   ·subst e
    rw [hcs] at hj
    by_cases e2:j=cntZ f s' u
    ·subst e2
     rw [if_pos rfl,posZ_of hu2 hs]
    ·rw [if_neg (by omega)]
     exact hZ2 s' hs' j (by omega)
   ·have hj2:j<cntZ f s' u:=by
     rw [cntZ,if_neg (by omega)] at hj
     omega
    have hm':=cntZ_mono f s' (show u≤2^T by omega)
    have hc':=hcnt s'
    have hcu':=cumZ_share (ns:=ns) (i:=s') (by omega)
    have hne:cumZ ns s'+j≠cumZ ns s+cntZ f s u:=by
     rcases Nat.lt_or_gt_of_ne e with h|h
     ·have:=cumZ_mono ns (show s'+1≤s by omega);omega
     ·have:=cumZ_mono ns (show s+1≤s' by omega);omega
    rw [if_neg hne]
    exact hZ2 s' hs' j hj2
  ·simp only [Int.toNat_natCast];omega
 ·intro hc
  have hu2:u=2^T:=by omega
  subst hu2
  exact hk w2 G2 H2 HC2 HS2 hS2 hZ2 Fr
def TtZ (ns:List Int) (T i:Nat) (Ht:Cells):Prop:=∀s,s<i→0<shareZ ns s→Ht (s*2)=some (.int .i32 ((cumZ ns s:Int)-(shareZ ns s:Int)))∧Ht (s*2+1)=some (.int .u32 (dnZ T (shareZ ns s):Nat))
theorem TtZ.skip {Ht:Cells} {i:Nat} (h:TtZ ns T i Ht) (h0:shareZ ns i=0):TtZ ns T (i+1) Ht:=by
 intro s hs hp
 by_cases e:s=i
 ·subst e;omega
 ·exact h s (by omega) hp
theorem TtZ.put {Ht:Cells} {i:Nat} (h:TtZ ns T i Ht):TtZ ns T (i+1) (updC (updC Ht (i*2+1) (.int .u32 (dnZ T (shareZ ns i):Nat))) (i*2) (.int .i32 ((cumZ ns i:Int)-(shareZ ns i:Int)))):=by
 intro s hs hp
 unfold updC
 by_cases e:s=i
 ·subst e
  refine ⟨if_pos rfl,?_⟩
  rw [if_neg (by omega),if_pos rfl]
 ·rw [if_neg (by omega),if_neg (by omega),if_neg (by omega),if_neg (by omega)]
  exact h s (by omega) hp
theorem bt5 {R88:Int→PT} {ttb capt:Nat} {Ht:Cells} (H:NS S ns T L) (HB:Blk w b S.at) (HT:Blk w ttb Ht) (hT:Som (capt*2) Ht) (hcap:L≤capt) (dbt:b≠ttb)
  (hk:∀w' Ht',Blk w' ttb Ht'→Som (capt*2) Ht'→TtZ ns T L Ht'→Fm w w' [ttb]→R88 ((2^T:Nat):Int) w') :
  loopP ((0:Int),(0:Int)) (q113_L16 ⟨some ⟨ttb,0,none⟩,L,capt⟩ (T:Int) R88 ⟨some ⟨b,256,none⟩,L,256⟩) w:=by
 have hTp:=H.log.pow
 have hlen:=H.len
 have hl2:=H.l2
 have hl13:=H.l13
 have hsum:=H.sum
 have hall:=cumZ_all ns
 refine ⟨fun x w'=>∃(i:Nat) (Ht':Cells),x=((cumZ ns i:Int),(i:Int))∧i≤L∧Blk w' ttb Ht'∧Som (capt*2) Ht'∧TtZ ns T i Ht'∧Fm w w' [ttb],fun x _=>L-x.2.toNat,
  ⟨0,Ht,rfl,Nat.zero_le _,HT,hT,(fun s hs=>absurd hs (Nat.not_lt_zero _)),Fm.refl _ _⟩,?_⟩
 rintro x w2 ⟨i,H2,rfl,hi,HT2,hT2,hZ2,Fr⟩
 unfold q113_L16
 simp only
 refine cnd_d ?_ ?_
 ·intro hc
  have hi3:i<ns.length:=by omega
  have hbn:=H.bnd hi3
  have HB2:Blk w2 b S.at:=HB.fr Fr (nm1 dbt)
  have hcu:=cumZ_share hi3
  have hsh:=shareZ_in hi3
  have hcl:=cumZ_le ns (i+1)
  have hle:shareZ ns i≤2^T:=by omega
  have e64:IntKind.i64.wrap ((i:Int)+1)=((i+1:Nat):Int):=by rw [wI64 (by omega) (by omega)];omega
  refine joinP_id ?_
  refine ixS_o rfl (by omega) ?_
  refine ld_b (t := .I .i16) (x:=ns[i]) HB2 (H.at hi3) ?_
  unfold absZ at hsh
  have fin:∀(w3:World) (x1:Int) (Ht':Cells),Blk w3 ttb Ht'→Som (capt*2) Ht'→TtZ ns T (i+1) Ht'→Fm w2 w3 [ttb]→x1=((cumZ ns (i+1):Nat):Int) →
    (∃(i':Nat) (Ht':Cells),(x1,IntKind.i64.wrap ((i:Int)+1))=((cumZ ns i':Int),(i':Int))∧i'≤L∧Blk w3 ttb Ht'∧Som (capt*2) Ht'∧TtZ ns T i' Ht'∧Fm w w3 [ttb])∧L-(x1,IntKind.i64.wrap ((i:Int)+1)).2.toNat<L-((cumZ ns i:Int),(i:Int)).2.toNat:=by
   intro w3 x1 Ht' h1 h2 h3 h4 h5
   refine ⟨⟨i+1,Ht',?_,by omega,h1,h2,h3,Fr.trans h4 (by intro v hv;simp at hv;simp [hv])⟩,?_⟩
   ·rw [h5,e64]
   ·rw [e64];simp only [Int.toNat_natCast];omega
  refine cnd_d ?_ ?_
  ·intro h0
   rw [if_neg (by omega)] at hsh
   unfold q113_J15
   simp only
   exact fin w2 _ H2 HT2 hT2 (hZ2.skip (by omega)) (Fm.refl _ _) (by omega)
  ·intro h0
   have hpos:0<shareZ ns i:=by rw [hsh];split<;>omega
   obtain ⟨m1,m2,m3,m4,m5⟩:=initNum H.log hpos hle
   have put:∀(x1 y1:Int) (z1:Int),x1=((dnZ T (shareZ ns i):Nat):Int)→y1=(cumZ ns i:Int)-(shareZ ns i:Int)→z1=((cumZ ns (i+1):Nat):Int) →
     (ixS 2 ⟨some ⟨ttb,0,none⟩,L,capt⟩ (i:Int) fun (p98:Addr)=>st (Addr.add p98 1) (.int .u32 x1)<|ixS 2 ⟨some ⟨ttb,0,none⟩,L,capt⟩ (i:Int) fun (p99:Addr)=>st p99 (.int .i32 y1) <|
      q113_J15 ((cumZ ns i:Int),(i:Int)) (fun s' w'=>(∃(i:Nat) (Ht':Cells),s'=((cumZ ns i:Int),(i:Int))∧i≤L∧Blk w' ttb Ht'∧Som (capt*2) Ht'∧TtZ ns T i Ht'∧Fm w w' [ttb])∧L-s'.2.toNat<L-((cumZ ns i:Int),(i:Int)).2.toNat) z1) w2:=by
    rintro x1 y1 z1 rfl rfl rfl
    refine ixS_b (k:=i) rfl rfl (by simp only;omega) ?_
    rw [Nat.zero_add,add_mk]
    refine st_u HT2 (hT2 _ (by omega)) rfl ?_
    intro w3 HT3 F3
    refine ixS_b (k:=i) rfl rfl (by simp only;omega) ?_
    rw [Nat.zero_add]
    refine st_u HT3 (hT2.upd _ (by omega)) rfl ?_
    intro w4 HT4 F4
    unfold q113_J15
    simp only
    exact fin w4 _ _ HT4 hT2.upd.upd hZ2.put (F3.trans F4 (by intro v hv;simp at hv;simp [hv])) rfl
   have one:ns[i] = -1∨ns[i]=1→q113_J14 ⟨some ⟨ttb,0,none⟩,L,capt⟩ (T:Int) ((cumZ ns i:Int),(i:Int)) (q113_J15 ((cumZ ns i:Int),(i:Int)) (fun s' w'=>(∃(i:Nat) (Ht':Cells),s'=((cumZ ns i:Int),(i:Int))∧i≤L∧Blk w' ttb Ht'∧Som (capt*2) Ht'∧TtZ ns T i Ht'∧Fm w w' [ttb])∧L-s'.2.toNat<L-((cumZ ns i:Int),(i:Int)).2.toNat)) ns[i] true w2:=by
    intro h1
    have hs1:shareZ ns i=1:=by rw [hsh];split<;>omega
    have hd:dnZ T 1=T*65536-2^T:=by unfold dnZ mbZ;rw [if_pos (Nat.le_refl _),Nat.one_mul]
    unfold q113_J14
    refine ⟨fun _ => ?_,fun h=>nomatch h⟩
    refine put _ _ _ ?_ ?_ ?_
    ·rw [hs1,hd,sh32 H.log]
     rcases H.log with rfl|rfl<;>rfl
    ·rw [hs1];simp only;rw [wI16 (by omega) (by omega),wI32 (by omega) (by omega)];rfl
    ·simp only;rw [wI16 (by omega) (by omega)];omega
   refine joinP_id (cnd_d ?_ ?_)
   ·intro h1
    rw [show decide (ns[i] = -1)=true from decide_eq_true h1]
    exact one (.inl h1)
   ·intro h1
    by_cases h2:ns[i]=1
    ·rw [show decide (ns[i]=1)=true from decide_eq_true h2]
     exact one (.inr h2)
    ·rw [show decide (ns[i]=1)=false from decide_eq_false h2]
     unfold q113_J14
     refine ⟨(fun h=>nomatch h),fun _ => ?_⟩
     rw [if_neg (by omega)] at hsh
     have hv:ns[i]=((shareZ ns i:Nat):Int):=by omega
     have hs2:2≤shareZ ns i:=by omega
     rw [hv]
     generalize hN:shareZ ns i=N at *
     have e1:IntKind.u32.wrap (IntKind.i16.wrap ((N:Int)-1))=((N-1:Nat):Int):=by rw [wI16 (by omega) (by omega),wU32 (by omega) (by omega)];omega
     rw [e1]
     refine c98 (by omega) (by omega) ?_
     have hmb:mbZ T N=T-(N-1).log2:=by unfold mbZ;rw [if_neg (by omega)]
     have hlg:(N-1).log2<T:=(Nat.log2_lt (by omega)).mpr (by omega)
     have hT6:T≤6:=by omega
     have e2:IntKind.u32.wrap (IntKind.u32.wrap ((T:Nat):Int)-(((N-1).log2:Nat):Int))=((mbZ T N:Nat):Int):=by rw [wU32 (x:=((T:Nat):Int)) (by omega) (by omega),wU32 (by omega) (by omega),hmb];omega
     rw [e2]
     refine ⟨by omega,by decide,?_⟩
     have e3:shlI .u32 ((mbZ T N:Nat):Int) 16=((mbZ T N*65536:Nat):Int):=shlI_nat .u32 (mbZ T N) 16 (by decide) (by simp only [IntKind.bits];omega)
     have e4:IntKind.u32.wrap (N:Int)=(N:Int):=wU32 (by omega) (by omega)
     have e5:shlI .u32 (N:Int) ((mbZ T N:Nat):Int)=((N*2^mbZ T N:Nat):Int):=shlI_nat .u32 N (mbZ T N) (by simp only [IntKind.bits];omega) (by simp only [IntKind.bits];omega)
     rw [e3,e4,e5]
     refine put _ _ _ ?_ ?_ ?_
     ·generalize N*2^mbZ T N=q at *
      rw [wU32 (by omega) (by omega)];omega
     ·simp only;rw [wI16 (by omega) (by omega),wI32 (by omega) (by omega)]
     ·simp only;rw [wI16 (by omega) (by omega)];omega
 ·intro hc
  have hi2:i=L:=by omega
  have hc2:cumZ ns i=2^T:=by rw [hi2, ←hlen,hall,hsum]
  rw [hc2]
  exact hk w2 H2 HT2 hT2 (hi2▸hZ2) Fr
end
theorem NS.congr {S S':FS} {ns:List Int} {T L:Nat} (H:NS S ns T L) (h1:S'.atl=S.atl) (h2:S'.symL=S.symL) (h3:S'.norm=S.norm):NS S' ns T L :=
 ⟨H.log,h1.trans H.atl,h2.trans H.symL,H.len,H.l2,H.l13,h3▸H.nrm,H.rng,H.sum⟩
theorem nw_cum {w:World} {κ:Addr→PT} (hk:∀w',Fm w w' []→w'.heap.size=w.heap.size+1→Blk w' w.heap.size (arrC .i16 257 fun _=>0)→κ ⟨w.heap.size,0,none⟩ w'):nw z208 208 κ w:=by
 refine hk _ (Fm.refl w []).alloc (World.size_alloc _ _) (Blk.new.congr ?_)
 funext i
 unfold z208 arrC
 rw [List.getElem?_toArray,List.getElem?_replicate]
theorem c113 {T L:Nat} {w:World} {b:Nat} {s:FS} {ns:List Int} {K:Value→PT} (H:NS s ns T L) (HB:Blk w b s.at) (h1:Own 1 w s.ts) (h2:Own 1 w s.st) (h3:Own 2 w s.tt) (d1:b∉s.ts.bs) (d2:b∉s.st.bs) (d3:b∉s.tt.bs)
  (d12:∀v∈s.ts.bs,v∉s.st.bs) (d13:∀v∈s.ts.bs,v∉s.tt.bs) (d23:∀v∈s.st.bs,v∉s.tt.bs)
  (hk:∀w' tb stb ttb capx capy capz zz f hT g,spreadZ ns (2^T) (fun _ => -1)=some (f,0)→ET T w' ttb stb (shareZ ns) (cumZ ns) (posZ (2^T) f) hT g→Own 1 w' ⟨some ⟨tb,0,none⟩,2^T,capx⟩→Own 1 w' ⟨some ⟨stb,0,none⟩,2^T,capy⟩→Own 2 w' ⟨some ⟨ttb,0,none⟩,256,capz⟩→256≤capz →
   Blk w' b ({ s with ts:=⟨some ⟨tb,0,none⟩,2^T,capx⟩,st:=⟨some ⟨stb,0,none⟩,2^T,capy⟩,tt:=⟨some ⟨ttb,0,none⟩,256,capz⟩,zb:=zz } : FS).at→Fm w w' (b::(s.ts.bs++(s.st.bs++s.tt.bs))) →
   (tb∈s.ts.bs∨w.heap.size≤tb)→(stb∈s.st.bs∨w.heap.size≤stb)→(ttb∈s.tt.bs∨w.heap.size≤ttb)→b≠tb→b≠stb→b≠ttb→tb≠stb→tb≠ttb→stb≠ttb→K .nilIface w') :
  callP Tryd.prog 113 #[.pointer (some ⟨b,0,none⟩)] [.c .V] K w:=by
 apply q113_ok
 unfold q113
 have hTp:=H.log.pow
 have hlen:=H.len
 have hl2:=H.l2
 have hl13:=H.l13
 have hbl:=HB.lt
 have hsz:2^T=32∨2^T=64:=by omega
 obtain ⟨f,hsp,hf0,_⟩:=statesZ_some H.log H.rng H.sum
 have hlaid:=spreadZ_laid hsp
 have hf:∀p,p<2^T→0≤f p∧f p<(L:Int):=by
  intro p hp
  have h0:=hf0 p hp
  rcases hlaid p with h|⟨i,hi,h,_⟩
  ·omega
  ·omega
 have hcnt:∀s:Nat,cntZ f s (2^T)=shareZ ns s:=fun s=>spread_count hsz H.rng H.sum hsp s
 simp only [add_mk,Nat.zero_add]
 refine ld_b (t := .I .u8) (x:=((T:Nat):Int)) HB H.atlAt ⟨by omega,?_⟩
 refine nw_cum ?_
 intro w1 F1 hs1 HC1
 generalize hc:w.heap.size=c at *
 have hbc:b≠c:=by omega
 refine c137 H.log (HB.fr F1 (by simp)) H.atl (h1.fm F1 (by simp)) (h2.fm F1 (by simp)) (h3.fm F1 (by simp)) d1 d2 d3 ?_
 intro w2 x y z x1 y1 z1 x2 y2 z2 x3 y3 z3 HB2 F2 x6 y6 z6
 obtain ⟨tb,Ft,ex,HT2,hFt,hcx⟩:=x2.out x3 x1
 obtain ⟨sb,Hs,ey,HS2,hHs,hcy⟩:=y2.out y3 y1
 obtain ⟨ttb,Ht,ez,HZ2,hHt,hcz⟩:=z2.out z3 z1
 have hx6:=x6 tb (by rw [ex];simp [Sl.bs])
 have hy6:=y6 sb (by rw [ey];simp [Sl.bs])
 have hz6:=z6 ttb (by rw [ez];simp [Sl.bs])
 rw [show x.bs = [tb] by rw [ex];rfl] at hy6 hz6
 rw [show y.bs = [sb] by rw [ey];rfl] at hz6
 simp only [List.mem_cons,List.not_mem_nil,or_false] at hy6 hz6
 have o1:=h1.lt
 have o2:=h2.lt
 have o3:=h3.lt
 rw [hc] at o1 o2 o3
 rw [hs1] at hx6 hy6 hz6
 have n1:tb≠c:=by rcases hx6 with h|h;have:=o1 _ h;omega;omega
 have n2:sb≠c:=by rcases hy6 with h|h;have:=o2 _ h;omega;omega
 have n3:ttb≠c:=by rcases hz6 with h|h;have:=o3 _ h;omega;omega
 have n4:b≠tb:=by rcases hx6 with h|h;exact fun e=>d1 (e▸h);omega
 have n5:b≠sb:=by rcases hy6 with h|h;exact fun e=>d2 (e▸h);omega
 have n6:b≠ttb:=by rcases hz6 with h|h;exact fun e=>d3 (e▸h);omega
 have n7:tb≠sb:=by
  rcases hy6 with h|h
  ·rcases hx6 with h'|h'
   ·exact fun e=>d12 _ h' (e▸h)
   ·have:=o2 _ h;omega
  ·exact fun e=>h.2 e.symm
 have n8:tb≠ttb:=by
  rcases hz6 with h|h
  ·rcases hx6 with h'|h'
   ·exact fun e=>d13 _ h' (e▸h)
   ·have:=o3 _ h;omega
  ·exact fun e=>h.2.1 e.symm
 have n9:sb≠ttb:=by
  rcases hz6 with h|h
  ·rcases hy6 with h'|h'
   ·exact fun e=>d23 _ h' (e▸h)
   ·have:=o3 _ h;omega
  ·exact fun e=>h.2.2 e.symm
 generalize hcapx:x.c=capx at *
 generalize hcapy:y.c=capy at *
 generalize hcapz:z.c=capz at *
 subst ex ey ez
 have H2:NS ({ s with ts:=⟨some ⟨tb,0,none⟩,2^T,capx⟩,st:=⟨some ⟨sb,0,none⟩,2^T,capy⟩,tt:=⟨some ⟨ttb,0,none⟩,256,capz⟩ } : FS) ns T L:=H.congr rfl rfl rfl
 refine ld_b (t := .S) (x:=⟨some ⟨tb,0,none⟩,2^T,capx⟩) HB2 rfl ?_
 refine slc_hi (m:=2^T) (sh32 H.log) hcx ?_
 refine joinP_id ?_
 unfold q113_X24
 have HC2:Blk w2 c (arrC .i16 257 fun _=>0):=HC1.fr F2 (nm1 hbc.symm)
 refine ixA_o (k:=0) rfl (by omega) ?_
 refine st_u HC2 (by rw [arrC_get (by omega)];rfl) rfl ?_
 intro w3 HC3 F3
 rw [arrC_upd (by omega)] at HC3
 refine joinP_id ?_
 unfold drw
 simp only [add_mk,Nat.zero_add]
 have HB3:=HB2.fr F3 (nm1 hbc)
 have D3:Fm w3 w3.drew []:=(Fm.refl _ _).drew
 refine ld_b (t := .I .u16) (x:=((L:Nat):Int)) HB3.drew H2.symAt ?_
 have eL:IntKind.u16.wrap (((L:Nat):Int)-1)=((L-1:Nat):Int):=by rw [wU16 (by omega) (by omega)];omega
 rw [eL]
 refine slcA_hi rfl (by omega) (by omega) ?_
 rw [sh32 H.log,wU32 (x:=((2^T:Nat):Int)-1) (by omega) (by omega)]
 have HT3:=(HT2.fr F3 (nm1 n1)).fr D3 (by simp)
 refine bt1 H2 HB3.drew HC3.drew (by unfold updF;rfl) HT3 (by simpa using hFt) hcx hbc n4 n1.symm ?_
 intro w4 e φ G4 F4 he hlow hei hG4 HC4 HT4 hF4 hL4 Fr4
 have HB4:=HB3.drew.fr Fr4 (by simp;exact ⟨hbc,n4⟩)
 refine bt2 H2 HB4 HC4 hG4 HT4 hF4 hcx hL4 he hlow hei hbc n4 n1.symm ?_
 intro w5 e5 φ5 G5 F5 hlow5 he50 he5 hG5 HC5 HT5 hF5 hL5 Fr5
 have HB5:=HB4.fr Fr5 (by simp;exact ⟨hbc,n4⟩)
 unfold q113_J23
 simp only [add_mk,Nat.zero_add]
 refine st_u HB5 rfl rfl ?_
 intro w6 HB6 Fr6
 have HB6':=HB6.congr (FS.setT (s' := { s with ts:=⟨some ⟨tb,0,none⟩,2^T,capx⟩,st:=⟨some ⟨sb,0,none⟩,2^T,capy⟩,tt:=⟨some ⟨ttb,0,none⟩,256,capz⟩,zb:=false }) 18 rfl rfl rfl (by decide))
 refine joinP_id ?_
 have hsp2:=hsp
 unfold spreadZ at hsp2
 rw [←hlow5] at hsp2
 refine bt3 (H2.zb false) HB6' (HT5.fr Fr6 (nm1 n4.symm)) hF5 hcx hL5 n4 he50 he5 hsp2 ?_
 intro w7 zz F7 HB7 HT7 hF7 hL7 Fr7
 unfold q113_J21
 simp only [add_mk,Nat.zero_add]
 refine ld_b (t := .S) (x:=⟨some ⟨sb,0,none⟩,2^T,capy⟩) HB7 rfl ?_
 refine joinP_id ?_
 have HC7:=(HC5.fr Fr6 (nm1 hbc.symm)).fr Fr7 (by simp;exact ⟨hbc.symm,n1.symm⟩)
 have HS3:=(HS2.fr F3 (nm1 n2)).fr D3 (by simp)
 have HS5:=(HS3.fr Fr4 (by simp;exact ⟨n2,n7.symm⟩)).fr Fr5 (by simp;exact ⟨n2,n7.symm⟩)
 have HS7:=(HS5.fr Fr6 (nm1 n5.symm)).fr Fr7 (by simp;exact ⟨n5.symm,n7.symm⟩)
 refine bt4 H2 HC7 hG5 HT7 hL7 HS7 (by simpa using hHs) hcy n1.symm n2.symm n7 hf hcnt ?_
 intro w8 G8 H8 HC8 HS8 hS8 hZ8 Fr8
 have HB8:=HB7.fr Fr8 (by simp;exact ⟨hbc,n5⟩)
 unfold q113_J20
 refine joinP_id ?_
 unfold q113_X19 drw
 simp only [add_mk,Nat.zero_add]
 refine ld_b (t := .S) (x:=⟨some ⟨ttb,0,none⟩,256,capz⟩) HB8.drew rfl ?_
 refine ld_b (t := .I .u16) (x:=((L:Nat):Int)) HB8.drew (H2.zb zz).symAt ?_
 refine slc_hi (m:=L) rfl (by simp only;omega) ?_
 refine ld_b (t := .I .u8) (x:=((T:Nat):Int)) HB8.drew (H2.zb zz).atlAt ⟨by decide,by omega,?_⟩
 refine joinP_id ?_
 refine ld_b (t := .I .u16) (x:=((L:Nat):Int)) HB8.drew.drew (H2.zb zz).symAt ?_
 refine slcA_hi rfl (by omega) (by omega) ?_
 have D8:Fm w8 w8.drew.drew []:=(Fm.refl _ _).drew.drew
 have HZ3:=(HZ2.fr F3 (nm1 n3)).fr D3 (by simp)
 have HZ5:=(HZ3.fr Fr4 (by simp;exact ⟨n3,n8.symm⟩)).fr Fr5 (by simp;exact ⟨n3,n8.symm⟩)
 have HZ7:=(HZ5.fr Fr6 (nm1 n6.symm)).fr Fr7 (by simp;exact ⟨n6.symm,n8.symm⟩)
 have HZ8:=(HZ7.fr Fr8 (by simp;exact ⟨n3,n9.symm⟩)).fr D8 (by simp)
 refine bt5 (H2.zb zz) HB8.drew.drew HZ8 hHt (by omega) n6 ?_
 intro w9 H9 HZ9 hZ9 hT9 Fr9
 unfold q113_J17
 rw [sh32 H.log,wI16 (x:=((2^T:Nat):Int)) (by omega) (by omega)]
 refine cnd_nd (fun h=>absurd rfl h) (fun _ => ?_)
 unfold q113_J18
 have HB9:=HB8.drew.drew.fr Fr9 (nm1 n6)
 have HT9:=((HT7.fr Fr8 (by simp;exact ⟨n1,n7⟩)).fr D8 (by simp)).fr Fr9 (nm1 n8)
 have HS9:=(HS8.fr D8 (by simp)).fr Fr9 (nm1 n9)
 have Fall:Fm w w9 (b::(s.ts.bs++(s.st.bs++s.tt.bs))):=by
  have U:Fm w w9 [b,c,tb,sb,ttb]:=by
   refine ((((((((F1.mono (S' := [b,c,tb,sb,ttb]) (by simp)).trans F2 ?_).trans F3 ?_).trans D3 ?_).trans Fr4 ?_).trans Fr5 ?_).trans Fr6 ?_).trans Fr7 ?_).trans (((Fr8.mono (S' := [b,c,tb,sb,ttb]) ?_).trans D8 ?_).trans Fr9 ?_) ?_<;>(intro v hv;simp at hv ⊢;try omega)
  refine U.mono ?_
  intro v hv
  simp only [List.mem_cons,List.not_mem_nil,or_false,List.mem_append] at hv ⊢
  rcases hv with rfl|rfl|rfl|rfl|rfl
  ·exact .inl (.inl rfl)
  ·exact .inr (by omega)
  ·rcases hx6 with h|h
   ·exact .inl (.inr (.inl h))
   ·exact .inr (by omega)
  ·rcases hy6 with h|h
   ·exact .inl (.inr (.inr (.inl h)))
   ·exact .inr (by omega)
  ·rcases hz6 with h|h
   ·exact .inl (.inr (.inr (.inr h)))
   ·exact .inr (by omega)
 refine hk w9 tb sb ttb capx capy capz zz f H9 H8 hsp ⟨H.log,HZ9,HS9,?_⟩ (Own.of HT9 (by simpa using hF7) hcx) (Own.of HS9 (by simpa using hS8) hcy) (Own.of HZ9 hZ9 hcz) hcz HB9 Fall ?_ ?_ ?_ n4 n5 n6 n7 n8 n9
 ·intro t ht hpos
  have htL:t<L:=by
   by_cases h:t<L
   ·exact h
   ·rw [shareZ_out (by omega)] at hpos;omega
  have hcu:=cumZ_share (ns:=ns) (i:=t) (by omega)
  have hcl:=cumZ_le ns (t+1)
  have hsum:=H.sum
  obtain ⟨t1,t2⟩:=hT9 t htL hpos
  refine ⟨by omega,t1,t2,by omega,?_⟩
  intro j hj
  have hj2:j<cntZ f t (2^T):=by rw [hcnt];exact hj
  exact ⟨hZ8 t htL j hj2,(posZ_spec hj2).1⟩
 ·rcases hx6 with h|h
  ·exact .inl h
  ·exact .inr (by omega)
 ·rcases hy6 with h|h
  ·exact .inl h
  ·exact .inr (by omega)
 ·rcases hz6 with h|h
  ·exact .inl h
  ·exact .inr (by omega)
def smI (φ:Nat→Int→Nat) (nf:Nat→Int):Nat→Nat
 | 0=>0
 | i+1=>smI φ nf i+φ i (nf i)
theorem smI_congr {φ ψ:Nat→Int→Nat} {nf nf':Nat→Int} : ∀ {i:Nat},(∀j,j<i→φ j (nf j)=ψ j (nf' j))→smI φ nf i=smI ψ nf' i
 | 0,_=>rfl
 | i+1,h=>by rw [smI,smI,smI_congr (i:=i) (fun j hj=>h j (by omega)),h i (by omega)]
theorem smI_next (φ:Nat→Int→Nat) (nf:Nat→Int) (i:Nat) (v:Int):smI φ (updF nf i v) (i+1)=smI φ nf i+φ i v:=by
 rw [smI,smI_congr (nf':=nf) (ψ:=φ) (fun j hj=>by unfold updF;rw [if_neg (by omega)])]
 unfold updF
 rw [if_pos rfl]
theorem smI_upd (φ:Nat→Int→Nat) (nf:Nat→Int) (k:Nat) (v:Int):∀i,k<i→smI φ (updF nf k v) i+φ k (nf k)=smI φ nf i+φ k v
 | 0,h=>by omega
 | i+1,h=>by
  by_cases e:k=i
  ·subst e
   rw [smI_next,smI];omega
  ·have:=smI_upd φ nf k v i (by omega)
   rw [smI,smI]
   have h2:updF nf k v i=nf i:=by unfold updF;rw [if_neg (by omega)]
   rw [h2];omega
theorem smI_mono (φ:Nat→Int→Nat) (nf:Nat→Int) {i j:Nat} (h:i≤j):smI φ nf i≤smI φ nf j:=by
 induction j with
 | zero=>have:i=0:=(by omega);subst this;exact Nat.le_refl _
 | succ j ih =>
  by_cases e:i=j+1
  ·subst e;exact Nat.le_refl _
  ·have:=ih (by omega)
   rw [smI];omega
theorem smI_ge (φ:Nat→Int→Nat) (nf:Nat→Int) {i j:Nat} (h:i<j):φ i (nf i)≤smI φ nf j:=by
 have:=smI_mono φ nf (show i+1≤j by omega)
 rw [smI] at this;omega
def gA (_:Nat) (x:Int):Nat:=if x = -2 then 0 else absZ x
def gR (cs:Nat→Nat) (j:Nat) (x:Int):Nat:=if x = -2 then cs j else 0
def gC (cs:Nat→Nat) (j:Nat) (_:Int):Nat:=cs j
def gS (_:Nat) (x:Int):Nat:=absZ x
theorem sumZ_map (nf:Nat→Int) (L:Nat):sumZ ((List.range L).map nf)=smI gS nf L:=by
 induction L with
 | zero=>rfl
 | succ L ih =>
  rw [List.range_succ,List.map_append,smI, ←ih]
  unfold sumZ
  simp [gS]
structure CS (S:FS) (cs:Nat→Nat) (T L n:Nat):Prop where
 log:LogOK T
 atl:S.atl=(T:Nat)
 symL:S.symL=(L:Nat)
 br:S.br.l=n
 off:S.brOff=0
 l2:2≤L
 l12:L≤12
 n2:2≤n
 n256:n<256
 cnt:∀i,i<L→S.count i=(cs i:Nat)
 sum:smI (gC cs) (fun _=>0) L=n
theorem CS.nm {S:FS} {cs:Nat→Nat} {T L n:Nat} (C:CS S cs T L n) (nf:Nat→Int):CS { S with norm:=nf } cs T L n:=⟨C.log,C.atl,C.symL,C.br,C.off,C.l2,C.l12,C.n2,C.n256,C.cnt,C.sum⟩
theorem CS.symAt {S:FS} {cs:Nat→Nat} {T L n:Nat} (C:CS S cs T L n):S.at 528=some (.int .u16 (L:Nat)):=by show some (Value.int .u16 S.symL)=_;rw [C.symL]
theorem CS.atlAt {S:FS} {cs:Nat→Nat} {T L n:Nat} (C:CS S cs T L n):S.at 529=some (.int .u8 (T:Nat)):=by show some (Value.int .u8 S.atl)=_;rw [C.atl]
theorem CS.offAt {S:FS} {cs:Nat→Nat} {T L n:Nat} (C:CS S cs T L n):S.at 513=some (.int .i64 (0:Nat)):=by show some (Value.int .i64 S.brOff)=_;rw [C.off];rfl
theorem CS.cntAt {S:FS} {cs:Nat→Nat} {T L n i:Nat} (C:CS S cs T L n) (hi:i<L):S.at i=some (.int .u32 (cs i:Nat)):=by
 have:=C.l12
 rw [FS.count_at _ (by omega),C.cnt i hi]
theorem CS.lt {S:FS} {cs:Nat→Nat} {T L n i:Nat} (C:CS S cs T L n) (hi:i<L):smI (gC cs) (fun _=>0) i+cs i≤n:=by
 have:=smI_mono (gC cs) (fun _=>0) (show i+1≤L by omega)
 rw [smI,C.sum] at this
 exact this
def Tri (cs:Nat→Nat) (nf:Nat→Int) (i:Nat):Prop:=∀j,j<i→(cs j=0∧nf j=0)∨(cs j≠0∧(nf j = -1∨nf j=1∨nf j = -2))
theorem Tri.next {cs:Nat→Nat} {nf:Nat→Int} {i:Nat} {v:Int} (h:Tri cs nf i) (hv:(cs i=0∧v=0)∨(cs i≠0∧(v = -1∨v=1∨v = -2))):Tri cs (updF nf i v) (i+1):=by
 intro j hj
 unfold updF
 by_cases e:j=i
 ·subst e;rw [if_pos rfl];exact hv
 ·rw [if_neg e];exact h j (by omega)
theorem Tri.upd {cs:Nat→Nat} {nf:Nat→Int} {i k:Nat} {v:Int} (h:Tri cs nf i) (hv:(cs k=0∧v=0)∨(cs k≠0∧(v = -1∨v=1∨v = -2))):Tri cs (updF nf k v) i:=by
 intro j hj
 unfold updF
 by_cases e:j=k
 ·subst e;rw [if_pos rfl];exact hv
 ·rw [if_neg e];exact h j hj
def nA (n T c:Nat):Int:=if c=0 then 0 else if c≤n/2^T then -1 else if c≤n*3/2^(T+1) then 1 else -2
def nB (lo:Nat) (x:Int) (c:Nat):Int:=if x = -2∧c≤lo then 1 else x
section
variable {T L n:Nat} {w:World} {b:Nat} {S:FS} {cs:Nat→Nat}
theorem n2a {R5:Int×Int→PT} (C:CS S cs T L n) (HB:Blk w b S.at)
  (hk:∀w' nf d t,(∀j,j<L→nf j=nA n T (cs j))→Tri cs nf L→d=smI gA nf L→t=smI (gR cs) nf L→n≤t+L*(n*3/2^(T+1))→d≤L→t≤n→Blk w' b ({ S with norm:=nf } : FS).at→Fm w w' [b]→R5 ((d:Int),(t:Int)) w') :
  loopP ((0:Int),((n:Nat):Int),(0:Int)) (q136_L2 ⟨b,0,none⟩ ((n:Nat):Int) ((T:Nat):Int) R5 ⟨some ⟨b,0,none⟩,L,256⟩) w:=by
 have hl2:=C.l2
 have hl12:=C.l12
 have hn2:=C.n2
 have hn:=C.n256
 have hT6:T=5∨T=6:=C.log
 refine ⟨fun x w'=>∃(d t i:Nat) (nf:Nat→Int),x=((d:Int),(t:Int),(i:Int))∧i≤L∧(∀j,j<i→nf j=nA n T (cs j))∧Tri cs nf i∧d=smI gA nf i∧t+smI (gC cs) (fun _=>0) i=smI (gR cs) nf i+n∧n≤t+i*(n*3/2^(T+1))∧d≤i∧t≤n∧Blk w' b ({ S with norm:=nf } : FS).at∧Fm w w' [b],
  fun x _=>L-x.2.2.toNat,⟨0,n,0,S.norm,rfl,Nat.zero_le _,(fun j hj=>absurd hj (Nat.not_lt_zero _)),(fun j hj=>absurd hj (Nat.not_lt_zero _)),rfl,by simp [smI],by omega,Nat.le_refl _,Nat.le_refl _,HB,Fm.refl _ _⟩,?_⟩
 rintro x w2 ⟨d,t,i,nf,rfl,hi,hEx,hTri,hd,ht,hlo,hdi,htn,HB2,Fr⟩
 unfold q136_L2
 simp only
 refine cnd_d ?_ ?_
 ·intro hc
  have hi2:i<L:=by omega
  have C2:=C.nm nf
  have hlt:=C.lt hi2
  have e1:shrI .u32 (IntKind.u32.wrap ((n:Nat):Int)) ((T:Nat):Int)=((n/2^T:Nat):Int):=by
   rw [wU32 (by omega) (by omega)];exact shrI_nat .u32 n T (by simp only [IntKind.bits];omega)
  have e2:shrI .u32 (IntKind.u32.wrap (IntKind.u32.wrap ((n:Nat):Int)*3)) (IntKind.u8.wrap (((T:Nat):Int)+1))=((n*3/2^(T+1):Nat):Int):=by
   rw [wU32 (x:=((n:Nat):Int)) (by omega) (by omega),wU32 (by omega) (by omega),wU8 (by omega) (by omega)]
   exact shrI_nat .u32 (n*3) (T+1) (by simp only [IntKind.bits];omega)
  have hle:n/2^T≤n*3/2^(T+1):=by rcases hT6 with rfl|rfl<;>omega
  have e64:IntKind.i64.wrap ((i:Int)+1)=((i+1:Nat):Int):=by rw [wI64 (by omega) (by omega)];omega
  have hnA:nA n T (cs i)=if cs i=0 then 0 else if cs i≤n/2^T then -1 else if cs i≤n*3/2^(T+1) then 1 else -2:=rfl
  generalize hlow:n*3/2^(T+1)=lo at *
  generalize n/2^T=lt at *
  have hms:(i+1)*lo=i*lo+lo:=Nat.succ_mul _ _
  refine joinP_id ?_
  unfold q136_X1 q136_J0
  simp only [add_mk,Nat.zero_add]
  refine ixS_o rfl (by omega) ?_
  rw [Nat.zero_add]
  refine ld_b (t := .I .u32) (x:=((cs i:Nat):Int)) HB2 (C2.cntAt hi2) ?_
  rw [e1,e2,e64]
  have wr:∀(v:Int) (d' t':Nat) (x1 x2:Int),v=nA n T (cs i)→((cs i=0∧v=0)∨(cs i≠0∧(v = -1∨v=1∨v = -2)))→d'=d+gA i v→t'+cs i=t+gR cs i v→n≤t'+(i+1)*lo→d'≤i+1→t'≤n→x1=(d':Int)→x2=(t':Int) →
    (ixA 1 256 ⟨b,256,none⟩ (i:Int) fun (p:Addr)=>st p (.int .i16 v)<|fun w'=>(∃(d t j:Nat) (nf:Nat→Int),(x1,x2,((i+1:Nat):Int))=((d:Int),(t:Int),(j:Int))∧j≤L∧(∀m,m<j→nf m=nA n T (cs m))∧Tri cs nf j∧d=smI gA nf j∧t+smI (gC cs) (fun _=>0) j=smI (gR cs) nf j+n∧n≤t+j*lo∧d≤j∧t≤n∧Blk w' b ({ S with norm:=nf } : FS).at∧Fm w w' [b])∧L-((i+1:Nat):Int).toNat<L-((i:Nat):Int).toNat) w2:=by
   rintro v d' t' x1 x2 hvA hv h1 h2 h3 h4 h5 rfl rfl
   refine ixA_o rfl (by omega) ?_
   refine st_u HB2 (by rw [FS.norm_at _ (by omega)];rfl) rfl ?_
   intro w3 HB3 F3
   rw [FS.setN (by omega)] at HB3
   refine ⟨⟨d',t',i+1,updF nf i v,rfl,by omega,?_,hTri.next hv,?_,?_,h3,h4,h5,HB3,Fr.trans F3 (fun x hx => .inl hx)⟩,by simp only [Int.toNat_natCast];omega⟩
   ·intro j hj
    unfold updF
    by_cases e:j=i
    ·subst e;rw [if_pos rfl];exact hvA
    ·rw [if_neg e];exact hEx j (by omega)
   ·rw [smI_next];omega
   ·rw [smI_next,smI]
    show t'+(smI (gC cs) (fun _=>0) i+cs i)=_
    omega
  refine cnd_d ?_ ?_
  ·intro h0
   have h0':cs i=0:=by omega
   exact wr 0 d t _ _ (by rw [hnA,if_pos h0']) (.inl ⟨h0',rfl⟩) (by show d=d+absZ 0;rfl) (by rw [h0'];rfl) (by omega) (by omega) htn rfl rfl
  ·intro h0
   have h0':cs i≠0:=by omega
   refine cnd_d ?_ ?_
   ·intro h1
    exact wr (-1) (d+1) (t-cs i) _ _ (by rw [hnA,if_neg h0',if_pos (by omega)]) (.inr ⟨h0',.inl rfl⟩) rfl (by show _=t+0;omega) (by omega) (by omega) (by omega) (by rw [wU32 (by omega) (by omega)];omega) (by rw [wU32 (by omega) (by omega)];omega)
   ·intro h1
    refine cnd_d ?_ ?_
    ·intro h2
     exact wr 1 (d+1) (t-cs i) _ _ (by rw [hnA,if_neg h0',if_neg (by omega),if_pos (by omega)]) (.inr ⟨h0',.inr (.inl rfl)⟩) rfl (by show _=t+0;omega) (by omega) (by omega) (by omega) (by rw [wU32 (by omega) (by omega)];omega) (by rw [wU32 (by omega) (by omega)];omega)
    ·intro h2
     exact wr (-2) d t _ _ (by rw [hnA,if_neg h0',if_neg (by omega),if_neg (by omega)]) (.inr ⟨h0',.inr (.inr rfl)⟩) rfl rfl (by omega) (by omega) htn rfl rfl
 ·intro hc
  have hi2:i=L:=by omega
  subst hi2
  have hsum:=C.sum
  exact hk w2 nf d t hEx hTri hd (by omega) hlo hdi htn HB2 Fr
theorem n2b {R20:Int×Int→PT} {d0 t0:Nat} {nf0:Nat→Int} (C:CS S cs T L n) (HB:Blk w b ({ S with norm:=nf0 } : FS).at) (hTri:Tri cs nf0 L) (hd:d0=smI gA nf0 L) (ht:t0=smI (gR cs) nf0 L) (hdL:d0≤L) (htn:t0≤n)
  (hk:∀w' nf d t,(∀j,j<L→nf j=nB (t0*3/((2^T-d0)*2)) (nf0 j) (cs j))→Tri cs nf L→d=smI gA nf L→t=smI (gR cs) nf L→t0≤t+L*(t0*3/((2^T-d0)*2))→d≤L→t≤n→Blk w' b ({ S with norm:=nf } : FS).at→Fm w w' [b]→R20 ((d:Int),(t:Int)) w') :
  loopP ((d0:Int),((t0:Nat):Int),(0:Int)) (q136_L5 ⟨b,0,none⟩ ((T:Nat):Int) ((d0:Int),(t0:Int)) R20 ⟨some ⟨b,0,none⟩,L,256⟩) w:=by
 have hl2:=C.l2
 have hl12:=C.l12
 have hn2:=C.n2
 have hn:=C.n256
 have hTp:=C.log.pow
 have cntD:∀nf,Tri cs nf L→smI gA nf L≤L:=by
  intro nf h
  have:∀i,i≤L→smI gA nf i≤i:=by
   intro i
   induction i with
   | zero=>intro _;exact Nat.le_refl _
   | succ i ih =>
    intro hi
    have:=ih (by omega)
    have hg:gA i (nf i)≤1:=by
     rcases h i (by omega) with ⟨_,h⟩|⟨_,h|h|h⟩<;>rw [h]<;>unfold gA<;>decide
    rw [smI];omega
  exact this L (Nat.le_refl _)
 refine ⟨fun x w'=>∃(d t i:Nat) (nf:Nat→Int),x=((d:Int),(t:Int),(i:Int))∧i≤L∧(∀j,j<L→nf j=if j<i then nB (t0*3/((2^T-d0)*2)) (nf0 j) (cs j) else nf0 j)∧Tri cs nf L∧d=smI gA nf L∧t=smI (gR cs) nf L∧t0≤t+i*(t0*3/((2^T-d0)*2))∧t≤n∧Blk w' b ({ S with norm:=nf } : FS).at∧Fm w w' [b],
  fun x _=>L-x.2.2.toNat,⟨d0,t0,0,nf0,rfl,Nat.zero_le _,(fun j hj=>(if_neg (Nat.not_lt_zero _)).symm),hTri,hd,ht,by omega,htn,HB,Fm.refl _ _⟩,?_⟩
 rintro x w2 ⟨d,t,i,nf,rfl,hi,hEx,hTri2,hd2,ht2,hlo,htn2,HB2,Fr⟩
 unfold q136_L5
 simp only
 refine cnd_d ?_ ?_
 ·intro hc
  have hi2:i<L:=by omega
  have C2:=C.nm nf
  have hlt:=C.lt hi2
  have hdl:=cntD nf hTri2
  have e2:quoI .u32 (IntKind.u32.wrap ((t0:Int)*3)) (IntKind.u32.wrap (IntKind.u32.wrap (shlI .u32 1 ((T:Nat):Int)-(d0:Int))*2))=((t0*3/((2^T-d0)*2):Nat):Int):=by
   rw [sh32 C.log,wU32 (x:=(t0:Int)*3) (by omega) (by omega),wU32 (x:=((2^T:Nat):Int)-(d0:Int)) (by omega) (by omega),wU32 (by omega) (by omega)]
   have:=quoI_nat .u32 (t0*3) ((2^T-d0)*2) (by simp only [IntKind.bits];omega)
   rw [show ((t0*3:Nat):Int)=(t0:Int)*3 by omega,show (((2^T-d0)*2:Nat):Int)=(((2^T:Nat):Int)-(d0:Int))*2 by omega] at this
   exact this
  have e64:IntKind.i64.wrap ((i:Int)+1)=((i+1:Nat):Int):=by rw [wI64 (by omega) (by omega)];omega
  generalize hlow:t0*3/((2^T-d0)*2)=lo at *
  have hExi:nf i=nf0 i:=by rw [hEx i hi2,if_neg (Nat.lt_irrefl _)]
  have hnx:∀v:Int,v=nB lo (nf0 i) (cs i)→∀j,j<L→updF nf i v j=if j<i+1 then nB lo (nf0 j) (cs j) else nf0 j:=by
   intro v hv j hj
   unfold updF
   by_cases e:j=i
   ·subst e;rw [if_pos rfl,if_pos (by omega)];exact hv
   ·rw [if_neg e,hEx j hj]
    by_cases e2:j<i
    ·rw [if_pos e2,if_pos (by omega)]
    ·rw [if_neg e2,if_neg (by omega)]
  have hself:updF nf i (nf i)=nf:=by
   funext j
   unfold updF
   split
   ·subst_vars;rfl
   ·rfl
  have hms:(i+1)*lo=i*lo+lo:=Nat.succ_mul _ _
  refine joinP_id ?_
  unfold q136_X4 q136_J3
  simp only [add_mk,Nat.zero_add]
  refine ixS_o rfl (by omega) ?_
  rw [Nat.zero_add]
  refine ld_b (t := .I .u32) (x:=((cs i:Nat):Int)) HB2 (C2.cntAt hi2) ?_
  refine ixA_o rfl (by omega) ?_
  refine ld_b (t := .I .i16) (x:=nf i) HB2 (FS.norm_at _ (by omega)) ?_
  rw [e2,e64]
  have same:nf i=nB lo (nf0 i) (cs i)→(∃(d' t' j:Nat) (nf:Nat→Int),((d:Int),(t:Int),((i+1:Nat):Int))=((d':Int),(t':Int),(j:Int))∧j≤L∧(∀k,k<L→nf k=if k<j then nB lo (nf0 k) (cs k) else nf0 k)∧Tri cs nf L∧d'=smI gA nf L∧t'=smI (gR cs) nf L∧t0≤t'+j*lo∧t'≤n∧Blk w2 b ({ S with norm:=nf } : FS).at∧Fm w w2 [b])∧L-((i+1:Nat):Int).toNat<L-((i:Nat):Int).toNat :=
   fun he=>⟨⟨d,t,i+1,nf,rfl,by omega,(by have:=hnx _ he;rw [hself] at this;exact this),hTri2,hd2,ht2,by omega,htn2,HB2,Fr⟩,by simp only [Int.toNat_natCast];omega⟩
  refine cnd_d ?_ ?_
  ·intro h0
   refine cnd_d ?_ ?_
   ·intro h1
    have hcs:cs i≠0:=by
     rcases hTri2 i hi2 with ⟨_,h⟩|⟨h,_⟩
     ·omega
     ·exact h
    have hR:=smI_upd (gR cs) nf i 1 L hi2
    have hA:=smI_upd gA nf i 1 L hi2
    have g1:gR cs i (nf i)=cs i:=by unfold gR;rw [if_pos h0]
    have g2:gR cs i 1=0:=rfl
    have g3:gA i (nf i)=0:=by unfold gA;rw [if_pos h0]
    have g4:gA i 1=1:=rfl
    rw [g1,g2] at hR
    rw [g3,g4] at hA
    refine ixA_o rfl (by omega) ?_
    refine st_u HB2 (by rw [FS.norm_at _ (by omega)];rfl) rfl ?_
    intro w3 HB3 F3
    rw [FS.setN (by omega)] at HB3
    refine ⟨⟨d+1,t-cs i,i+1,updF nf i 1,?_,by omega,hnx 1 (by unfold nB;exact Eq.symm (if_pos ⟨by omega,by omega⟩)),hTri2.upd (.inr ⟨hcs,.inr (.inl rfl)⟩),by omega,by omega,by omega,by omega,HB3,Fr.trans F3 (fun x hx => .inl hx)⟩,by simp only [Int.toNat_natCast];omega⟩
    rw [wU32 (by omega) (by omega),wU32 (by omega) (by omega)]
    rw [show ((d+1:Nat):Int)=(d:Int)+1 by omega,show ((t-cs i:Nat):Int)=(t:Int)-(cs i:Int) by omega]
   ·intro h1
    exact same (by unfold nB;rw [if_neg (fun h=>h1 (by omega)),hExi])
  ·intro h0
   exact same (by unfold nB;rw [if_neg (fun h=>h0 (by omega)),hExi])
 ·intro hc
  have hi2:i=L:=by omega
  subst hi2
  exact hk w2 nf d t (fun j hj=>by rw [hEx j hj,if_pos hj]) hTri2 hd2 ht2 hlo (by have:=cntD nf hTri2;omega) htn2 HB2 Fr
end
structure Normed (cs:Nat→Nat) (nf:Nat→Int) (T L:Nat):Prop where
 zero:∀j,j<L→(nf j=0↔cs j=0)
 ge:∀j,j<L → -1≤nf j
 sum:smI gS nf L=2^T
theorem rest_num {V t D:Nat} (hV:V=2^57∨V=2^56) (ht:0<t) (ht2:t<256) (hD:D≤64):(V/2-1+t*((V*D+(V/2-1))/t))/V=D∧t*((V*D+(V/2-1))/t)≤V*D+(V/2-1):=by
 have h1:=Nat.mul_div_le (V*D+(V/2-1)) t
 have h2:=Nat.lt_mul_div_succ (V*D+(V/2-1)) ht
 rw [Nat.mul_add,Nat.mul_one] at h2
 generalize t*((V*D+(V/2-1))/t)=q at *
 have h3:D*V=V*D:=Nat.mul_comm _ _
 have h4:(D+1)*V=V*D+V:=by rw [Nat.add_mul,Nat.one_mul,h3]
 generalize V*D=X at *
 refine ⟨Nat.div_eq_of_lt_le (by omega) (by omega),h1⟩
def f1Z (cs:Nat→Nat) (T n:Nat) (j:Nat):Int:=nA n T (cs j)
def d1Z (cs:Nat→Nat) (T L n:Nat):Nat:=smI gA (f1Z cs T n) L
def t1Z (cs:Nat→Nat) (T L n:Nat):Nat:=smI (gR cs) (f1Z cs T n) L
def f2Z (cs:Nat→Nat) (T L n:Nat) (j:Nat):Int :=
 if n*3/2^(T+1)<t1Z cs T L n/(2^T-d1Z cs T L n) then nB (t1Z cs T L n*3/((2^T-d1Z cs T L n)*2)) (f1Z cs T n j) (cs j) else f1Z cs T n j
def rZ (T d t:Nat):Nat:=(2^(62-T)*(2^T-d)+(2^(62-T)/2-1))/t
def f3Z (cs:Nat→Nat) (T d t:Nat) (f:Nat→Int) (j:Nat):Int :=
 if f j = -2 then (((2^(62-T)/2-1+(smI (gR cs) f j+cs j)*rZ T d t)/2^(62-T):Nat):Int)-(((2^(62-T)/2-1+smI (gR cs) f j*rZ T d t)/2^(62-T):Nat):Int) else f j
def ok3 (cs:Nat→Nat) (T L d t:Nat) (f:Nat→Int):Prop:=∀j,j<L→f j = -2→1≤f3Z cs T d t f j
def n2Z (cs:Nat→Nat) (T L n:Nat) (j:Nat):Int:=f3Z cs T (smI gA (f2Z cs T L n) L) (smI (gR cs) (f2Z cs T L n) L) (f2Z cs T L n) j
def n2Ok (cs:Nat→Nat) (T L n:Nat):Prop:=ok3 cs T L (smI gA (f2Z cs T L n) L) (smI (gR cs) (f2Z cs T L n) L) (f2Z cs T L n)
theorem f3Z_congr {cs:Nat→Nat} {T L d t:Nat} {f f':Nat→Int} (h:∀j,j<L→f j=f' j) {j:Nat} (hj:j<L):f3Z cs T d t f j=f3Z cs T d t f' j:=by
 unfold f3Z
 rw [h j hj,smI_congr (φ:=gR cs) (ψ:=gR cs) (nf:=f) (nf':=f') (i:=j) (fun k hk=>by rw [h k (by omega)])]
theorem ok3_congr {cs:Nat→Nat} {T L d t:Nat} {f f':Nat→Int} (h:∀j,j<L→f j=f' j):ok3 cs T L d t f↔ok3 cs T L d t f':=by
 unfold ok3
 constructor
 ·intro a j hj h2
  rw [←f3Z_congr h hj]
  exact a j hj ((h j hj).trans h2)
 ·intro a j hj h2
  rw [f3Z_congr h hj]
  exact a j hj ((h j hj).symm.trans h2)
section
variable {T L n:Nat} {w:World} {b:Nat} {S:FS} {cs:Nat→Nat}
theorem sh64u {T:Nat} (hT:LogOK T):IntKind.u64.wrap (62-IntKind.u64.wrap ((T:Nat):Int))=((62-T:Nat):Int)∧shlI .u64 1 ((62-T:Nat):Int)=((2^(62-T):Nat):Int)∧IntKind.u64.wrap (IntKind.u64.wrap ((62-T:Nat):Int)-1)=((61-T:Nat):Int)∧IntKind.u64.wrap (((62-T:Nat):Int)-1)=((61-T:Nat):Int) ∧
  IntKind.u64.wrap (shlI .u64 1 ((61-T:Nat):Int)-1)=((2^(62-T)/2-1:Nat):Int)∧(2^(62-T)=2^57∨2^(62-T)=2^56)∧2^(62-T)*2^T=2^62:=by
 rcases hT with rfl|rfl
 ·exact ⟨rfl,rfl,rfl,rfl,rfl,.inl rfl,rfl⟩
 ·exact ⟨rfl,rfl,rfl,rfl,rfl,.inr rfl,rfl⟩
theorem n2c {K1:Value→PT} {R64:Unit→PT} {x33a:Int} {d t D:Nat} {nf0:Nat→Int} (C:CS S cs T L n) (HB:Blk w b ({ S with norm:=nf0 } : FS).at) (hTri:Tri cs nf0 L) (hd:d=smI gA nf0 L) (ht:t=smI (gR cs) nf0 L) (ht0:0<t) (htn:t≤n) (hdL:d≤L) (hD:D=2^T-d)
  (hk0:∀w' v nf,isPE v=true→isNil v=false→¬ok3 cs T L d t nf0→Blk w' b ({ S with norm:=nf } : FS).at→Fm w w' [b]→K1 v w')
  (hk:∀w' nf,Normed cs nf T L→ok3 cs T L d t nf0→(∀j,j<L→nf j=f3Z cs T d t nf0 j)→Blk w' b ({ S with norm:=nf } : FS).at→Fm w w' [b]→R64 () w') :
  loopP ((((2^(62-T)/2-1:Nat):Int)),(0:Int)) (q136_L16 ⟨b,0,none⟩ K1 ((T:Nat):Int) (x33a,(t:Int),(D:Int)) (D:Int) R64 ⟨some ⟨b,0,none⟩,L,256⟩) w:=by
 have hl2:=C.l2
 have hl12:=C.l12
 have hn2:=C.n2
 have hn:=C.n256
 have hTp:=C.log.pow
 obtain ⟨u1,u2,u3,u4,u5,u6,u7⟩:=sh64u C.log
 obtain ⟨r1,r2⟩:=rest_num (D:=D) u6 ht0 (by omega) (by omega)
 have hD64:D≤64:=by omega
 have eN:IntKind.u64.wrap (IntKind.u64.wrap (shlI .u64 1 ((62-T:Nat):Int)*IntKind.u64.wrap (D:Int))+IntKind.u64.wrap (shlI .u64 1 ((61-T:Nat):Int)-1))=((2^(62-T)*D+(2^(62-T)/2-1):Nat):Int):=by
  rw [u5,u2,wU64 (x:=(D:Int)) (by omega) (by omega)]
  have:((2^(62-T):Nat):Int)*(D:Int)=((2^(62-T)*D:Nat):Int):=by rw [Int.natCast_mul]
  rw [this]
  have h8:2^(62-T)*D≤2^(62-T)*2^T:=Nat.mul_le_mul_left _ (by omega)
  rw [u7] at h8
  generalize 2^(62-T)*D=X at *
  generalize 2^(62-T)=V at *
  rw [wU64 (x:=(X:Int)) (by omega) (by omega),wU64 (by omega) (by omega)];omega
 have hX:2^(62-T)*D+(2^(62-T)/2-1)<2^63:=by
  have h8:2^(62-T)*D≤2^(62-T)*2^T:=Nat.mul_le_mul_left _ (by omega)
  rw [u7] at h8
  generalize 2^(62-T)*D=X at *
  omega
 have eQ:quoI .u64 ((2^(62-T)*D+(2^(62-T)/2-1):Nat):Int) (IntKind.u64.wrap (t:Int))=(((2^(62-T)*D+(2^(62-T)/2-1))/t:Nat):Int):=by
  rw [wU64 (x:=(t:Int)) (by omega) (by omega)]
  exact quoI_nat .u64 _ _ hX
 have hf3:∀j,f3Z cs T d t nf0 j=if nf0 j = -2 then (((2^(62-T)/2-1+(smI (gR cs) nf0 j+cs j)*((2^(62-T)*D+(2^(62-T)/2-1))/t))/2^(62-T):Nat):Int)-(((2^(62-T)/2-1+smI (gR cs) nf0 j*((2^(62-T)*D+(2^(62-T)/2-1))/t))/2^(62-T):Nat):Int) else nf0 j:=fun j=>by rw [hD];rfl
 generalize hr:(2^(62-T)*D+(2^(62-T)/2-1))/t=r at *
 have hVp:0<2^(62-T):=Nat.two_pow_pos _
 generalize hVV:2^(62-T)=V at *
 have hmt:V/2-1+t*r<2^63:=by
  have h8:V*D≤2^62:=by
   have:V*D≤V*2^T:=Nat.mul_le_mul_left _ (by omega)
   rw [u7] at this;exact this
  generalize V*D=X at *
  omega
 refine ⟨fun x w'=>∃(tmp i:Nat) (nf:Nat→Int),x=((tmp:Int),(i:Int))∧i≤L∧tmp=V/2-1+smI (gR cs) nf0 i*r∧(∀j,j<L→nf j=if j<i then f3Z cs T d t nf0 j else nf0 j)∧(∀j,j<i→nf0 j = -2→1≤f3Z cs T d t nf0 j)∧(∀j,j<L→(nf j=0↔cs j=0)∧(-1≤nf j∨nf j = -2))∧(∀j,j<i→nf j ≠ -2)∧smI gA nf L=d+tmp/V∧tmp+smI (gR cs) nf L*r=V/2-1+t*r∧Blk w' b ({ S with norm:=nf } : FS).at∧Fm w w' [b],
  fun x _=>L-x.2.toNat,⟨V/2-1,0,nf0,rfl,Nat.zero_le _,by rw [smI,Nat.zero_mul,Nat.add_zero],(fun j hj=>(if_neg (Nat.not_lt_zero _)).symm),(fun j hj=>absurd hj (Nat.not_lt_zero _)),?_,(fun j hj=>absurd hj (Nat.not_lt_zero _)),?_,?_,HB,Fm.refl _ _⟩,?_⟩
 ·intro j hj
  rcases hTri j hj with ⟨h1,h2⟩|⟨h1,h2|h2|h2⟩<;>omega
 ·rw [←hd,Nat.div_eq_of_lt (by omega)];omega
 ·rw [←ht]
 rintro x w2 ⟨tmp,i,nf,rfl,hi,hTm,hEx,hOk,hz,hdone,hA,hR,HB2,Fr⟩
 unfold q136_L16
 simp only
 refine cnd_d ?_ ?_
 ·intro hc
  have hi2:i<L:=by omega
  have C2:=C.nm nf
  have hlt:=C.lt hi2
  have e64:IntKind.i64.wrap ((i:Int)+1)=((i+1:Nat):Int):=by rw [wI64 (by omega) (by omega)];omega
  refine joinP_id ?_
  unfold q136_X15 q136_J14
  simp only [add_mk,Nat.zero_add]
  refine ixS_o rfl (by omega) ?_
  rw [Nat.zero_add]
  refine ld_b (t := .I .u32) (x:=((cs i:Nat):Int)) HB2 (C2.cntAt hi2) ?_
  refine ixA_o rfl (by omega) ?_
  refine ld_b (t := .I .i16) (x:=nf i) HB2 (FS.norm_at _ (by omega)) ?_
  rw [u1,e64]
  refine cnd_d ?_ ?_
  ·intro h0
   have hcs:cs i≠0:=fun h=>by have:=(hz i hi2).1.mpr h;omega
   have hRi:=smI_ge (gR cs) nf hi2
   have g1:gR cs i (nf i)=cs i:=by unfold gR;rw [if_pos h0]
   have g3:gA i (nf i)=0:=by unfold gA;rw [if_pos h0]
   rw [g1] at hRi
   have hsplit:smI (gR cs) nf L*r=(smI (gR cs) nf L-cs i)*r+cs i*r:=by rw [←Nat.add_mul,Nat.sub_add_cancel hRi]
   have hend:tmp+cs i*r≤V/2-1+t*r:=by omega
   have ecs:IntKind.u64.wrap ((cs i:Nat):Int)=((cs i:Nat):Int):=wU64 (by omega) (by omega)
   have eE:IntKind.u64.wrap ((tmp:Int)+IntKind.u64.wrap (((cs i:Nat):Int)*((r:Nat):Int)))=((tmp+cs i*r:Nat):Int):=by
    have:((cs i:Nat):Int)*((r:Nat):Int)=((cs i*r:Nat):Int):=by rw [Int.natCast_mul]
    rw [this]
    generalize cs i*r=q at *
    rw [wU64 (x:=(q:Int)) (by omega) (by omega),wU64 (by omega) (by omega)];omega
   have hdl:(tmp+cs i*r)/V≤D:=by
    rw [←r1]
    exact Nat.div_le_div_right hend
   have hdm:tmp/V≤(tmp+cs i*r)/V:=Nat.div_le_div_right (by omega)
   rw [u4,eN,eQ,ecs,eE]
   have es1:shrI .u64 ((tmp+cs i*r:Nat):Int) ((62-T:Nat):Int)=(((tmp+cs i*r)/V:Nat):Int):=by
    rw [←hVV];exact shrI_nat .u64 _ _ (by simp only [IntKind.bits];omega)
   have es2:shrI .u64 (tmp:Int) ((62-T:Nat):Int)=((tmp/V:Nat):Int):=by
    rw [←hVV];exact shrI_nat .u64 _ _ (by simp only [IntKind.bits];omega)
   rw [es1,es2]
   have hExi:nf i=nf0 i:=by rw [hEx i hi2,if_neg (Nat.lt_irrefl _)]
   have hnx:smI (gR cs) nf0 (i+1)=smI (gR cs) nf0 i+cs i:=by
    rw [smI]
    have:gR cs i (nf0 i)=cs i:=by rw [←hExi];exact g1
    rw [this]
   have hTm2:tmp+cs i*r=V/2-1+(smI (gR cs) nf0 i+cs i)*r:=by rw [Nat.add_mul];omega
   have hf3i:f3Z cs T d t nf0 i=(((tmp+cs i*r)/V:Nat):Int)-((tmp/V:Nat):Int):=by
    rw [hf3 i,if_pos (hExi▸h0), ←hTm2, ←hTm]
   generalize hq:(tmp+cs i*r)/V=q at *
   generalize hp:tmp/V=p at *
   rw [wU32 (x:=(q:Int)) (by omega) (by omega),wU32 (x:=(p:Int)) (by omega) (by omega),wU32 (by omega) (by omega)]
   refine ⟨by omega,by omega,?_⟩
   refine cnd_d ?_ ?_
   ·intro h1
    refine c62 ?_
    intro w3 v F3 hv1 hv2
    exact hk0 w3 v nf hv1 hv2 (fun hok=>by have h2:=hok i hi2 (hExi▸h0);rw [hf3i] at h2;omega) (HB2.fr F3 (by simp)) (Fr.trans F3 (by simp))
   ·intro h1
    refine ixA_o rfl (by omega) ?_
    refine st_u HB2 (by rw [FS.norm_at _ (by omega)];rfl) rfl ?_
    intro w3 HB3 F3
    rw [FS.setN (by omega),wI16 (by omega) (by omega)] at HB3
    have hU1:=smI_upd (gR cs) nf i ((q:Int)-(p:Int)) L hi2
    have hU2:=smI_upd gA nf i ((q:Int)-(p:Int)) L hi2
    have g2:gR cs i ((q:Int)-(p:Int))=0:=by unfold gR;rw [if_neg (by omega)]
    have g4:gA i ((q:Int)-(p:Int))=q-p:=by unfold gA;rw [if_neg (by omega)];unfold absZ;rw [if_neg (by omega)];omega
    rw [g1,g2] at hU1
    rw [g3,g4] at hU2
    refine ⟨⟨tmp+cs i*r,i+1,updF nf i ((q:Int)-(p:Int)),rfl,by omega,by rw [hnx];exact hTm2,?_,?_,?_,?_,?_,?_,HB3,Fr.trans F3 (fun x hx => .inl hx)⟩,by simp only [Int.toNat_natCast];omega⟩
    ·intro j hj
     unfold updF
     by_cases e:j=i
     ·subst e;rw [if_pos rfl,if_pos (by omega)];exact hf3i.symm
     ·rw [if_neg e,hEx j hj]
      by_cases e2:j<i
      ·rw [if_pos e2,if_pos (by omega)]
      ·rw [if_neg e2,if_neg (by omega)]
    ·intro j hj h2
     by_cases e:j=i
     ·subst e;rw [hf3i];omega
     ·exact hOk j (by omega) h2
    ·intro j hj
     unfold updF
     split
     ·subst_vars;omega
     ·exact hz j hj
    ·intro j hj
     unfold updF
     split
     ·omega
     ·exact hdone j (by omega)
    ·rw [hq];omega
    ·rw [show smI (gR cs) (updF nf i ((q:Int)-(p:Int))) L=smI (gR cs) nf L-cs i by omega];omega
  ·intro h0
   have hExi:nf i=nf0 i:=by rw [hEx i hi2,if_neg (Nat.lt_irrefl _)]
   have h00:nf0 i ≠ -2:=fun h=>h0 (by omega)
   have hnx:smI (gR cs) nf0 (i+1)=smI (gR cs) nf0 i:=by
    rw [smI]
    have:gR cs i (nf0 i)=0:=by unfold gR;rw [if_neg h00]
    omega
   refine ⟨⟨tmp,i+1,nf,rfl,by omega,by rw [hnx];exact hTm,?_,?_,hz,?_,hA,hR,HB2,Fr⟩,by simp only [Int.toNat_natCast];omega⟩
   ·intro j hj
    rw [hEx j hj]
    by_cases e2:j<i
    ·rw [if_pos e2,if_pos (by omega)]
    ·rw [if_neg e2]
     by_cases e3:j<i+1
     ·have e:j=i:=by omega
      subst e
      rw [if_pos e3,hf3 j,if_neg h00]
     ·rw [if_neg e3]
   ·intro j hj h2
    by_cases e:j=i
    ·subst e;exact absurd h2 h00
    ·exact hOk j (by omega) h2
   ·intro j hj
    by_cases e:j=i
    ·subst e;exact h0
    ·exact hdone j (by omega)
 ·intro hc
  have hi2:i=L:=by omega
  subst hi2
  have h0:smI (gR cs) nf i=0:=by
   have:∀k,k≤i→smI (gR cs) nf k=0:=by
    intro k
    induction k with
    | zero=>intro _;rfl
    | succ k ih =>
     intro hk
     rw [smI,ih (by omega)]
     unfold gR
     rw [if_neg (hdone k (by omega))]
   exact this i (Nat.le_refl _)
  have h1:smI gS nf i=smI gA nf i:=by
   refine smI_congr ?_
   intro j hj
   unfold gS gA
   rw [if_neg (hdone j hj)]
  rw [h0,Nat.zero_mul,Nat.add_zero] at hR
  rw [hR,r1] at hA
  refine hk w2 nf ⟨fun j hj=>(hz j hj).1,?_,by rw [h1,hA];omega⟩ (fun j hj h2=>hOk j hj h2) (fun j hj=>by rw [hEx j hj,if_pos hj]) HB2 Fr
  intro j hj
  rcases (hz j hj).2 with h|h
  ·exact h
  ·exact absurd h (hdone j hj)
theorem c136 {K:Value→PT} (C:CS S cs T L n) (HB:Blk w b S.at)
  (hk0:∀w' v nf,isPE v=true→isNil v=false→¬n2Ok cs T L n→Blk w' b ({ S with norm:=nf } : FS).at→Fm w w' [b]→K v w')
  (hk:∀w' nf,Normed cs nf T L→n2Ok cs T L n→(∀j,j<L→nf j=n2Z cs T L n j)→Blk w' b ({ S with norm:=nf } : FS).at→Fm w w' [b]→K .nilIface w') :
  callP Tryd.prog 136 #[.pointer (some ⟨b,0,none⟩)] [.c .V] K w:=by
 apply q136_ok
 unfold q136
 have hl2:=C.l2
 have hl12:=C.l12
 have hn2:=C.n2
 have hn:=C.n256
 have hTp:=C.log.pow
 have hT6:T=5∨T=6:=C.log
 obtain ⟨u1,u2,u3,u4,u5,u6,u7⟩:=sh64u C.log
 simp only [add_mk,Nat.zero_add]
 refine ld2_b (t := .S) (u := .I .i64) (x:=S.br) (y:=((0:Nat):Int)) HB rfl C.offAt ?_
 have hbr:=C.br
 refine c93 (s:=S.br) (n:=0) (by omega) (by omega) ?_
 intro w1 F1
 rw [hbr,Nat.sub_zero]
 have HB1:=HB.fr F1 (by simp)
 have F1':Fm w w1 [b]:=F1.mono (by simp)
 refine ld_b (t := .I .u8) (x:=((T:Nat):Int)) HB1 C.atlAt ⟨by omega,by rw [wU8 (by omega) (by omega)];omega,?_⟩
 refine joinP_id ?_
 unfold drw
 refine ld_b (t := .I .u16) (x:=((L:Nat):Int)) HB1.drew C.symAt ?_
 refine slcA_hi rfl (by omega) (by omega) ?_
 rw [wU32 (x:=((n:Nat):Int)) (by omega) (by omega)]
 refine n2a C HB1.drew ?_
 intro w2 nf2 d2 t2 hE2 hTri2 hd2 ht2 hlo2 hdL2 htn2 HB2 F2
 have hd2Z:d1Z cs T L n=d2:=by rw [hd2];exact smI_congr (fun j hj=>by rw [hE2 j hj];rfl)
 have ht2Z:t1Z cs T L n=t2:=by rw [ht2];exact smI_congr (fun j hj=>by rw [hE2 j hj];rfl)
 have F02:Fm w w2 [b]:=(F1'.drew).trans F2 (fun x hx => .inl hx)
 have ht20:0<t2:=by
  have hb:L*(n*3/2^(T+1))≤12*(n*3/2^(T+1)):=Nat.mul_le_mul_right _ hl12
  have hc:12*(n*3/2^(T+1))<n:=by rcases hT6 with rfl|rfl<;>omega
  omega
 have last:∀(w3:World) (nf:Nat→Int) (d t:Nat),(∀j,j<L→nf j=f2Z cs T L n j)→Tri cs nf L→d=smI gA nf L→t=smI (gR cs) nf L→0<t→t≤n→d≤L→Blk w3 b ({ S with norm:=nf } : FS).at→Fm w w3 [b]→q136_J20 ⟨b,0,none⟩ K ((T:Nat):Int) ((d:Int),(t:Int),((2^T-d:Nat):Int)) w3:=by
  intro w3 nf d t hE hTri hd ht ht0 htn hdL HB3 F3
  have hdZ:smI gA (f2Z cs T L n) L=d:=by rw [hd];exact smI_congr (fun j hj=>by rw [hE j hj])
  have htZ:smI (gR cs) (f2Z cs T L n) L=t:=by rw [ht];exact smI_congr (fun j hj=>by rw [hE j hj])
  unfold q136_J20
  simp only [add_mk,Nat.zero_add]
  refine joinP_id ?_
  refine ld_b (t := .I .u16) (x:=((L:Nat):Int)) HB3 C.symAt ?_
  rw [wU32 (x:=((L:Nat):Int)) (by omega) (by omega),wU32 (by omega) (by omega)]
  refine cnd_d (fun h=>absurd h (by omega)) (fun _ => ?_)
  unfold q136_J19
  simp only
  refine joinP_id ?_
  refine cnd_d (fun h=>absurd h (by omega)) (fun _ => ?_)
  unfold q136_J18
  simp only
  refine ⟨by rw [u1,u4];omega,by rw [u1];omega,by rw [wU64 (by omega) (by omega)];omega,?_⟩
  refine joinP_id ?_
  unfold drw
  simp only [add_mk,Nat.zero_add]
  refine ld_b (t := .I .u16) (x:=((L:Nat):Int)) HB3.drew C.symAt ?_
  refine slcA_hi rfl (by omega) (by omega) ?_
  rw [u1,u4,u5]
  have F3d:Fm w w3.drew [b]:=F3.drew
  refine n2c C HB3.drew hTri hd ht ht0 htn hdL rfl ?_ ?_
  ·intro w4 v nf4 h1 h2 h3 HB4 F4
   exact hk0 w4 v nf4 h1 h2 (fun h=>h3 (by unfold n2Ok at h;rw [hdZ,htZ] at h;exact (ok3_congr hE).mpr h)) HB4 (F3d.trans F4 (fun x hx => .inl hx))
  ·intro w4 nf4 h1 h2 h3 HB4 F4
   unfold q136_J17
   exact hk w4 nf4 h1 (by unfold n2Ok;rw [hdZ,htZ];exact (ok3_congr hE).mp h2) (fun j hj=>by rw [h3 j hj];unfold n2Z;rw [hdZ,htZ];exact f3Z_congr hE hj) HB4 (F3d.trans F4 (fun x hx => .inl hx))
 unfold q136_J22
 refine ⟨by omega,joinP_id ?_⟩
 unfold q136_X21
 simp only
 have e1:IntKind.u32.wrap (shlI .u32 1 ((T:Nat):Int)-(d2:Int))=((2^T-d2:Nat):Int):=by rw [sh32 C.log,wU32 (by omega) (by omega)];omega
 have e2:shrI .u32 (IntKind.u32.wrap (IntKind.u32.wrap ((n:Nat):Int)*3)) (IntKind.u8.wrap (((T:Nat):Int)+1))=((n*3/2^(T+1):Nat):Int):=by
  rw [wU32 (x:=((n:Nat):Int)) (by omega) (by omega),wU32 (by omega) (by omega),wU8 (by omega) (by omega)]
  exact shrI_nat .u32 (n*3) (T+1) (by simp only [IntKind.bits];omega)
 have e3:quoI .u32 (t2:Int) ((2^T-d2:Nat):Int)=((t2/(2^T-d2):Nat):Int):=quoI_nat .u32 t2 (2^T-d2) (by simp only [IntKind.bits];omega)
 rw [e1,e2,e3]
 refine ⟨by omega,?_⟩
 refine cnd_d ?_ ?_
 ·intro hc
  refine ⟨by rw [wU32 (by omega) (by omega)];omega,joinP_id ?_⟩
  unfold drw
  simp only [add_mk,Nat.zero_add]
  refine ld_b (t := .I .u16) (x:=((L:Nat):Int)) HB2.drew C.symAt ?_
  refine slcA_hi rfl (by omega) (by omega) ?_
  refine n2b C HB2.drew hTri2 hd2 ht2 hdL2 htn2 ?_
  intro w3 nf3 d3 t3 hE3 hTri3 hd3 ht3 hlo3 hdL3 htn3 HB3 F3
  unfold q136_J6
  simp only
  refine ⟨by omega,?_⟩
  rw [show IntKind.u32.wrap (shlI .u32 1 ((T:Nat):Int)-(d3:Int))=((2^T-d3:Nat):Int) by rw [sh32 C.log,wU32 (by omega) (by omega)];omega]
  refine last w3 nf3 d3 t3 (fun j hj=>by rw [hE3 j hj,hE2 j hj];unfold f2Z;rw [ht2Z,hd2Z,if_pos (Int.ofNat_lt.mp hc)];rfl) hTri3 hd3 ht3 ?_ htn3 hdL3 HB3 (F02.drew.trans F3 (fun x hx => .inl hx))
  have hb:L*(t2*3/((2^T-d2)*2))≤12*(t2*3/((2^T-d2)*2)):=Nat.mul_le_mul_right _ hl12
  have hc2:t2*3/((2^T-d2)*2)≤t2*3/40:=Nat.div_le_div_left (by omega) (by omega)
  omega
 ·intro hc
  exact last w2 nf2 d2 t2 (fun j hj=>by rw [hE2 j hj];unfold f2Z;rw [ht2Z,hd2Z,if_neg (fun h=>hc (Int.ofNat_lt.mpr h))];rfl) hTri2 hd2 ht2 ht20 htn2 hdL2 HB2 F02
end
def rtbV (k:Nat):Int:=([0,473195,504333,520860,550000,700000,750000,830000]:List Int).getD k 0
def rtbAt (w:World):Prop:=∀k,k<8→w.cell? ⟨6,k,none⟩=some (.int .u32 (rtbV k))
theorem rtbAt.fm {w w':World} {S:List Nat} (h:rtbAt w) (F:Fm w w' S) (hS:6∉S):rtbAt w':=by
 intro k hk
 have h1:=h k hk
 have h2:=World.block_lt_of_cell? _ _ h1
 rw [←h1]
 exact cell?_of_heap (F.old 6 h2 hS) _ _
def qZ (n T c:Nat):Nat:=c*(2^62/n)/2^(62-T)
def upZ (n T c:Nat):Bool:=decide (((qZ n T c:Nat):Int)<8)&&decide ((IntKind.wrap .u64 ((shlI .u64 (1:Int) (IntKind.wrap .u64 (((62-T:Nat):Int)-(20:Int))))*(IntKind.wrap .u64 (rtbV (qZ n T c)))))<(IntKind.wrap .u64 (((c*(2^62/n):Nat):Int)-(shlI .u64 (IntKind.wrap .u64 ((qZ n T c:Nat):Int)) ((62-T:Nat):Int)))))
def gZ (n T c:Nat):Int:=if c=0 then 0 else if c≤n/2^T then -1 else if upZ n T c=true then ((qZ n T c+1:Nat):Int) else ((qZ n T c:Nat):Int)
def kP (g:Nat→Int):Nat→Nat×Nat
 | 0=>(0,0)
 | i+1=>if ((kP g i).2:Int)<g i then (i,(g i).toNat) else kP g i
def g1Z (cs:Nat→Nat) (T n:Nat) (j:Nat):Int:=gZ n T (cs j)
def secZ (cs:Nat→Nat) (T L n:Nat):Prop:=((((g1Z cs T n (kP (g1Z cs T n) L).1).toNat/2:Nat)):Int)≤(smI gS (g1Z cs T n) L:Int)-((2^T:Nat):Int)
instance (cs:Nat→Nat) (T L n:Nat):Decidable (secZ cs T L n):=by unfold secZ;infer_instance
def nmZ (cs:Nat→Nat) (T L n:Nat) (j:Nat):Int :=
 if secZ cs T L n then n2Z cs T L n j else if j=(kP (g1Z cs T n) L).1 then g1Z cs T n j+(((2^T:Nat):Int)-(smI gS (g1Z cs T n) L:Int)) else g1Z cs T n j
def nmOk (cs:Nat→Nat) (T L n:Nat):Prop:=secZ cs T L n→n2Ok cs T L n
theorem proba {n c T:Nat} (hT:LogOK T) (hn2:2≤n) (hn:n<256) (hc:c≤n) (h:n/2^T<c):1≤c*(2^62/n)/2^(62-T)∧c*(2^62/n)/2^(62-T)≤2^T∧c*(2^62/n)≤2^62:=by
 obtain ⟨u1,u2,u3,u4,u5,u6,u7⟩:=sh64u hT
 have h1:=Nat.lt_mul_div_succ (2^62) (show 0<n by omega)
 have h2:n≤2^62/n:=(Nat.le_div_iff_mul_le (by omega)).mpr (Nat.le_trans (Nat.mul_le_mul (show n≤256 by omega) (show n≤256 by omega)) (by decide))
 have h3:=Nat.mul_div_le (2^62) n
 have h4:c*(2^62/n)≤n*(2^62/n):=Nat.mul_le_mul_right _ hc
 have h5:n<c*2^T:=(Nat.div_lt_iff_lt_mul (Nat.two_pow_pos _)).mp h
 have h6:(n+1)*(2^62/n)≤c*2^T*(2^62/n):=Nat.mul_le_mul_right _ h5
 rw [Nat.mul_right_comm,Nat.add_mul,Nat.one_mul] at h6
 rw [Nat.mul_add,Nat.mul_one] at h1
 have hVp:0<2^(62-T):=Nat.two_pow_pos _
 generalize 2^62/n=p at *
 have h7:2^(62-T)*2^T<c*p*2^T:=by rw [u7];omega
 have h8:2^(62-T)<c*p:=Nat.lt_of_mul_lt_mul_right h7
 have h9:c*p≤2^62:=by omega
 refine ⟨Nat.div_pos (by omega) hVp,?_,h9⟩
 rw [Nat.div_le_iff_le_mul_add_pred hVp,u7]
 omega
section
variable {T L n:Nat} {w:World} {b:Nat} {S:FS} {cs:Nat→Nat}
theorem n1a {R7:Int×Int→PT} (C:CS S cs T L n) (HB:Blk w b S.at) (hr:rtbAt w) (h6:b≠6)
  (hk:∀w' nf k,(∀j,j<L→nf j=g1Z cs T n j)→k=(kP (g1Z cs T n) L).1→(∀j,j<L→(nf j=0↔cs j=0) ∧ -1≤nf j∧nf j≤65)→smI gS nf L≤L*65→k<L→0<nf k→Blk w' b ({ S with norm:=nf } : FS).at→Fm w w' [b]→R7 (((2^T:Nat):Int)-(smI gS nf L:Int),(k:Int)) w') :
  loopP (((2^T:Nat):Int),(0:Int),(0:Int),(0:Int)) (q111_L5 ⟨b,0,none⟩ ((T:Nat):Int) ((n:Nat):Int) ((n:Nat):Int) R7 ⟨some ⟨b,0,none⟩,L,256⟩) w:=by
 have hl2:=C.l2
 have hl12:=C.l12
 have hn2:=C.n2
 have hn:=C.n256
 have hTp:=C.log.pow
 have hT6:T=5∨T=6:=C.log
 obtain ⟨u1,u2,u3,u4,u5,u6,u7⟩:=sh64u C.log
 refine ⟨fun x w'=>∃(i k P:Nat) (nf:Nat→Int),x=(((2^T:Nat):Int)-(smI gS nf i:Int),(k:Int),(P:Int),(i:Int))∧i≤L∧(∀j,j<i→nf j=g1Z cs T n j)∧(k,P)=kP (g1Z cs T n) i∧(∀j,j<i→(nf j=0↔cs j=0) ∧ -1≤nf j∧nf j≤65)∧smI gS nf i≤i*65 ∧
   ((P=0∧smI (gC cs) (fun _=>0) i≤i*(n/2^T))∨(0<P∧k<i∧nf k=(P:Int)))∧Blk w' b ({ S with norm:=nf } : FS).at∧Fm w w' [b],fun x _=>L-x.2.2.2.toNat,
  ⟨0,0,0,S.norm,rfl,Nat.zero_le _,(fun j hj=>absurd hj (Nat.not_lt_zero _)),rfl,(fun j hj=>absurd hj (Nat.not_lt_zero _)),Nat.zero_le _,.inl ⟨rfl,Nat.zero_le _⟩,HB,Fm.refl _ _⟩,?_⟩
 rintro x w2 ⟨i,k,P,nf,rfl,hi,hEx,hkP,hz,hsm,hP,HB2,Fr⟩
 unfold q111_L5
 simp only
 refine cnd_d ?_ ?_
 ·intro hc
  have hi2:i<L:=by omega
  have C2:=C.nm nf
  have hlt:=C.lt hi2
  have e64:IntKind.i64.wrap ((i:Int)+1)=((i+1:Nat):Int):=by rw [wI64 (by omega) (by omega)];omega
  have e1:IntKind.u32.wrap (shrI .i64 ((n:Nat):Int) ((T:Nat):Int))=((n/2^T:Nat):Int):=by
   have h1:shrI .i64 ((n:Nat):Int) ((T:Nat):Int)=((n/2^T:Nat):Int):=shrI_nat .i64 n T (by simp only [IntKind.bits];omega)
   have h2:n/2^T≤n:=Nat.div_le_self _ _
   rw [h1]
   generalize n/2^T=q at h2 ⊢
   rw [wU32 (by omega) (by omega)]
  have hprob:=proba (c:=cs i) C.log hn2 hn (by omega)
  have hsb:smI gS nf i≤12*65:=by omega
  have hgi:g1Z cs T n i=if cs i=0 then 0 else if cs i≤n/2^T then -1 else if upZ n T (cs i)=true then ((qZ n T (cs i)+1:Nat):Int) else ((qZ n T (cs i):Nat):Int):=rfl
  have hkn:kP (g1Z cs T n) (i+1)=if (P:Int)<g1Z cs T n i then (i,(g1Z cs T n i).toNat) else (k,P):=by rw [kP, ←hkP]
  generalize hlt':n/2^T=lt at *
  refine joinP_id ?_
  unfold q111_X4 q111_J3
  simp only [add_mk,Nat.zero_add]
  refine ixS_o rfl (by omega) ?_
  rw [Nat.zero_add]
  refine ld_b (t := .I .u32) (x:=((cs i:Nat):Int)) HB2 (C2.cntAt hi2) ?_
  rw [e1,e64]
  have hgc:smI (gC cs) (fun _=>0) (i+1)=smI (gC cs) (fun _=>0) i+cs i:=rfl
  have hmu:(i+1)*lt=i*lt+lt:=Nat.succ_mul _ _
  have wr:∀(v x1:Int) (k' P':Nat),v=g1Z cs T n i→(k',P')=kP (g1Z cs T n) (i+1)→(v=0↔cs i=0) → -1≤v→v≤65→x1=((2^T:Nat):Int)-(smI gS nf i:Int)-(absZ v:Int) →
    ((P'=0∧smI (gC cs) (fun _=>0) (i+1)≤(i+1)*lt)∨(0<P'∧((k'=i∧v=(P':Int))∨(k'<i∧nf k'=(P':Int))))) →
    (ixA 1 256 ⟨b,256,none⟩ (i:Int) fun (p:Addr)=>st p (.int .i16 v)<|fun w'=>(∃(j k P:Nat) (nf:Nat→Int),(x1,(k':Int),(P':Int),((i+1:Nat):Int))=(((2^T:Nat):Int)-(smI gS nf j:Int),(k:Int),(P:Int),(j:Int))∧j≤L∧(∀m,m<j→nf m=g1Z cs T n m)∧(k,P)=kP (g1Z cs T n) j∧(∀m,m<j→(nf m=0↔cs m=0) ∧ -1≤nf m∧nf m≤65)∧smI gS nf j≤j*65 ∧
     ((P=0∧smI (gC cs) (fun _=>0) j≤j*lt)∨(0<P∧k<j∧nf k=(P:Int)))∧Blk w' b ({ S with norm:=nf } : FS).at∧Fm w w' [b])∧L-((i+1:Nat):Int).toNat<L-((i:Nat):Int).toNat) w2:=by
   rintro v x1 k' P' hvE hkE hv1 hv2 hv3 rfl hP'
   refine ixA_o rfl (by omega) ?_
   refine st_u HB2 (by rw [FS.norm_at _ (by omega)];rfl) rfl ?_
   intro w3 HB3 F3
   rw [FS.setN (by omega)] at HB3
   have hab:absZ v≤65:=by unfold absZ;split<;>omega
   have hnx:smI gS (updF nf i v) (i+1)=smI gS nf i+absZ v:=smI_next gS nf i v
   refine ⟨⟨i+1,k',P',updF nf i v,?_,by omega,?_,hkE,?_,by omega,?_,HB3,Fr.trans F3 (fun x hx => .inl hx)⟩,by simp only [Int.toNat_natCast];omega⟩
   ·rw [hnx,show (((smI gS nf i+absZ v:Nat)):Int)=(smI gS nf i:Int)+(absZ v:Int) by omega, ←Int.sub_sub]
   ·intro m hm
    unfold updF
    by_cases e:m=i
    ·subst e;rw [if_pos rfl];exact hvE
    ·rw [if_neg e];exact hEx m (by omega)
   ·intro m hm
    unfold updF
    split
    ·subst_vars;exact ⟨hv1,hv2,hv3⟩
    ·exact hz m (by omega)
   ·rcases hP' with h|⟨h1,⟨h2,h3⟩|⟨h2,h3⟩⟩
    ·exact .inl h
    ·subst h2
     exact .inr ⟨h1,by omega,by unfold updF;rw [if_pos rfl];exact h3⟩
    ·exact .inr ⟨h1,by omega,by unfold updF;rw [if_neg (by omega)];exact h3⟩
  have keep:cs i≤lt→((P=0∧smI (gC cs) (fun _=>0) (i+1)≤(i+1)*lt)∨(0<P∧((k=i∧(0:Int)=1)∨(k<i∧nf k=(P:Int))))):=by
   intro h
   rcases hP with ⟨h1,h2⟩|⟨h1,h2,h3⟩
   ·exact .inl ⟨h1,by omega⟩
   ·exact .inr ⟨h1,.inr ⟨h2,h3⟩⟩
  refine cnd_d ?_ ?_
  ·intro h0
   have h0':cs i=0:=by omega
   have hg0:g1Z cs T n i=0:=by rw [hgi,if_pos h0']
   refine wr 0 _ k P hg0.symm (by rw [hkn,if_neg (by omega)]) ⟨fun _=>h0',fun _=>rfl⟩ (by omega) (by omega) (by show _=_-_-((0:Nat):Int);omega) ?_
   rcases keep (by omega) with h|⟨h1,⟨_,h⟩|h⟩
   ·exact .inl h
   ·omega
   ·exact .inr ⟨h1,.inr h⟩
  ·intro h0
   have h0':cs i≠0:=by omega
   refine cnd_d ?_ ?_
   ·intro h1
    have hg0:g1Z cs T n i = -1:=by rw [hgi,if_neg h0',if_pos (by omega)]
    refine wr (-1) _ k P hg0.symm (by rw [hkn,if_neg (by omega)]) ⟨fun h=>by omega,fun h=>by omega⟩ (by omega) (by omega) ?_ ?_
    ·show _=_-_-((1:Nat):Int)
     rw [wI16 (by omega) (by omega)];rfl
    ·rcases keep (by omega) with h|⟨h1,⟨_,h⟩|h⟩
     ·exact .inl h
     ·omega
     ·exact .inr ⟨h1,.inr h⟩
   ·intro h1
    obtain ⟨p1,p2,p3⟩:=hprob (by omega)
    refine ⟨by rw [u1];omega,?_⟩
    have fin:∀q:Nat,(q:Int)=g1Z cs T n i→1≤q→q≤65→q111_J1 ⟨b,0,none⟩ (((2^T:Nat):Int)-(smI gS nf i:Int),(k:Int),(P:Int),(i:Int)) (fun x24=>(fun s' w'=>(∃(j k P:Nat) (nf:Nat→Int),s'=(((2^T:Nat):Int)-(smI gS nf j:Int),(k:Int),(P:Int),(j:Int))∧j≤L∧(∀m,m<j→nf m=g1Z cs T n m)∧(k,P)=kP (g1Z cs T n) j∧(∀m,m<j→(nf m=0↔cs m=0) ∧ -1≤nf m∧nf m≤65)∧smI gS nf j≤j*65 ∧
     ((P=0∧smI (gC cs) (fun _=>0) j≤j*lt)∨(0<P∧k<j∧nf k=(P:Int)))∧Blk w' b ({ S with norm:=nf } : FS).at∧Fm w w' [b])∧L-s'.2.2.2.toNat<L-((i:Nat):Int).toNat) (x24.1,x24.2.1,x24.2.2,((i+1:Nat):Int))) (q:Int) w2:=by
     intro q hqE hq1 hq2
     unfold q111_J1 q111_J0
     simp only [add_mk,Nat.zero_add]
     have hq:absZ (q:Int)=q:=by unfold absZ;rw [if_neg (by omega)];omega
     have ew:IntKind.i16.wrap (((2^T:Nat):Int)-(smI gS nf i:Int)-(q:Int))=((2^T:Nat):Int)-(smI gS nf i:Int)-(absZ (q:Int):Int):=by rw [wI16 (by omega) (by omega),hq]
     refine joinP_id (cnd_d ?_ ?_)
     ·intro h2
      exact wr q _ i q hqE (by rw [hkn,if_pos (by omega), ←hqE,Int.toNat_natCast]) ⟨fun h=>by omega,fun h=>by omega⟩ (by omega) (by omega) ew (.inr ⟨by omega,.inl ⟨rfl,rfl⟩⟩)
     ·intro h2
      refine wr q _ k P hqE (by rw [hkn,if_neg (by omega)]) ⟨fun h=>by omega,fun h=>by omega⟩ (by omega) (by omega) ew ?_
      rcases hP with ⟨h3,h4⟩|⟨h3,h4,h5⟩
      ·omega
      ·exact .inr ⟨h3,.inr ⟨h4,h5⟩⟩
    refine joinP_id ?_
    unfold q111_X2
    have eN:IntKind.u64.wrap ((n:Nat):Int)=((n:Nat):Int):=wU64 (by omega) (by omega)
    have eC:IntKind.u64.wrap ((cs i:Nat):Int)=((cs i:Nat):Int):=wU64 (by omega) (by omega)
    have eS:quoI .u64 (4611686018427387904:Int) ((n:Nat):Int)=((2^62/n:Nat):Int):=quoI_nat .u64 (2^62) n (by decide)
    have eM:IntKind.u64.wrap (((cs i:Nat):Int)*((2^62/n:Nat):Int))=((cs i*(2^62/n):Nat):Int):=by
     rw [←Int.natCast_mul]
     generalize cs i*(2^62/n)=q at *
     rw [wU64 (by omega) (by omega)]
    have eP:shrI .u64 ((cs i*(2^62/n):Nat):Int) ((62-T:Nat):Int)=((cs i*(2^62/n)/2^(62-T):Nat):Int):=shrI_nat .u64 _ _ (by simp only [IntKind.bits];omega)
    rw [eN,eC,eS,eM,u1,eP]
    have hqq:qZ n T (cs i)=cs i*(2^62/n)/2^(62-T):=rfl
    have hup:upZ n T (cs i)=(decide (((qZ n T (cs i):Nat):Int)<8)&&decide ((IntKind.wrap .u64 ((shlI .u64 (1:Int) (IntKind.wrap .u64 (((62-T:Nat):Int)-(20:Int))))*(IntKind.wrap .u64 (rtbV (qZ n T (cs i))))))<(IntKind.wrap .u64 (((cs i*(2^62/n):Nat):Int)-(shlI .u64 (IntKind.wrap .u64 ((qZ n T (cs i):Nat):Int)) ((62-T:Nat):Int)))))):=rfl
    rw [hqq] at hup hgi
    rw [if_neg h0',if_neg (by omega)] at hgi
    generalize cs i*(2^62/n)/2^(62-T)=q at *
    rw [wI16 (x:=(q:Int)) (by omega) (by omega)]
    refine cnd_d ?_ ?_
    ·intro h2
     refine ixA_o (k:=q) rfl (by omega) ?_
     rw [Nat.zero_add]
     have hx:=(hr.fm Fr (by simpa using Ne.symm h6)) q (by omega)
     refine ld_c (t := .I .u32) (x:=rtbV q) hx ⟨by omega,?_⟩
     refine ⟨fun hb => ?_,fun hb => ?_⟩
     ·rw [hb,decide_eq_true h2,Bool.and_self] at hup
      rw [if_pos hup] at hgi
      rw [wI16 (x:=(q:Int)+1) (by omega) (by omega)]
      exact fin (q+1) hgi.symm (by omega) (by omega)
     ·rw [hb,Bool.and_false] at hup
      rw [if_neg (by rw [hup];decide)] at hgi
      exact fin q hgi.symm p1 (by omega)
    ·intro h2
     rw [decide_eq_false h2,Bool.false_and] at hup
     rw [if_neg (by rw [hup];decide)] at hgi
     exact fin q hgi.symm p1 (by omega)
 ·intro hc
  have hi2:i=L:=by omega
  subst hi2
  rcases hP with ⟨h1,h2⟩|⟨h1,h2,h3⟩
  ·have hsum:=C.sum
   have hb:i*(n/2^T)≤12*(n/2^T):=Nat.mul_le_mul_right _ hl12
   have hc:12*(n/2^T)<n:=by rcases hT6 with rfl|rfl<;>omega
   omega
  ·exact hk w2 nf k hEx (by rw [←hkP]) hz hsm h2 (by omega) HB2 Fr
theorem c111 {K:Value→PT} (C:CS S cs T L n) (HB:Blk w b S.at) (hr:rtbAt w) (h6:b≠6)
  (hk0:∀w' v nf,isPE v=true→isNil v=false→¬nmOk cs T L n→Blk w' b ({ S with norm:=nf } : FS).at→Fm w w' [b]→K v w')
  (hk:∀w' nf,Normed cs nf T L→nmOk cs T L n→(∀j,j<L→nf j=nmZ cs T L n j)→Blk w' b ({ S with norm:=nf } : FS).at→Fm w w' [b]→K .nilIface w') :
  callP Tryd.prog 111 #[.pointer (some ⟨b,0,none⟩)] [.c .V] K w:=by
 apply q111_ok
 unfold q111
 have hl2:=C.l2
 have hl12:=C.l12
 have hn2:=C.n2
 have hn:=C.n256
 have hTp:=C.log.pow
 obtain ⟨u1,u2,u3,u4,u5,u6,u7⟩:=sh64u C.log
 have hbr:=C.br
 simp only [add_mk,Nat.zero_add]
 refine ld_b (t := .I .u8) (x:=((T:Nat):Int)) HB C.atlAt ?_
 refine ld2_b (t := .S) (u := .I .i64) (x:=S.br) (y:=((0:Nat):Int)) HB rfl C.offAt ?_
 refine c93 (s:=S.br) (n:=0) (by omega) (by omega) ?_
 intro w1 F1
 rw [hbr,Nat.sub_zero]
 have HB1:=HB.fr F1 (by simp)
 refine ⟨by rw [wU64 (by omega) (by omega)];omega,by rw [u1,wU64 (by omega) (by omega)];omega,by omega,?_⟩
 refine ld2_b (t := .S) (u := .I .i64) (x:=S.br) (y:=((0:Nat):Int)) HB1 rfl C.offAt ?_
 refine c93 (s:=S.br) (n:=0) (by omega) (by omega) ?_
 intro w2 F2
 rw [hbr,Nat.sub_zero]
 have HB2:=HB1.fr F2 (by simp)
 have F02:Fm w w2 [b]:=(F1.mono (by simp)).trans F2 (by simp)
 refine ⟨by omega,joinP_id ?_⟩
 unfold drw
 refine ld_b (t := .I .u16) (x:=((L:Nat):Int)) HB2.drew C.symAt ?_
 refine slcA_hi rfl (by omega) (by omega) ?_
 rw [sh16 C.log]
 have hr2:rtbAt w2.drew:=hr.fm F02.drew (by simpa using Ne.symm h6)
 refine n1a C HB2.drew hr2 h6 ?_
 intro w3 nf k hEx hkE hz hsm hkL hpos HB3 F3
 have hSm:smI gS (g1Z cs T n) L=smI gS nf L:=smI_congr (fun j hj=>by rw [hEx j hj])
 have hsec:secZ cs T L n↔(((nf k).toNat/2:Nat):Int)≤(smI gS nf L:Int)-((2^T:Nat):Int):=by
  unfold secZ
  rw [hSm, ←hkE,hEx k hkL]
 have F03:Fm w w3 [b]:=F02.drew.trans F3 (fun x hx => .inl hx)
 have hzk:=hz k hkL
 unfold q111_J6
 simp only [add_mk,Nat.zero_add]
 refine ixA_o rfl (by omega) ?_
 refine ld_b (t := .I .i16) (x:=nf k) HB3 (FS.norm_at _ (by omega)) ⟨by decide,?_⟩
 have hsb:smI gS nf L≤12*65:=by omega
 have esh:shrI .i16 (nf k) 1=(((nf k).toNat/2:Nat):Int):=by
  have:=shrI_nat .i16 (nf k).toNat 1 (by simp only [IntKind.bits];omega)
  rw [show (((nf k).toNat:Nat):Int)=nf k by omega] at this
  exact this
 rw [esh,wI16 (by omega) (by omega)]
 refine cnd_d ?_ ?_
 ·intro hc
  have hs:secZ cs T L n:=hsec.mpr (by omega)
  refine c136 (C.nm nf) HB3 ?_ ?_
  ·intro w4 v nf4 h1 h2 h3 HB4 F4
   exact hk0 w4 v nf4 h1 h2 (fun h=>h3 (h hs)) HB4 (F03.trans F4 (fun x hx => .inl hx))
  ·intro w4 nf4 h1 h2 h3 HB4 F4
   exact hk w4 nf4 h1 (fun _=>h2) (fun j hj=>by rw [h3 j hj];unfold nmZ;rw [if_pos hs]) HB4 (F03.trans F4 (fun x hx => .inl hx))
 ·intro hc
  have hs:¬secZ cs T L n:=fun h=>hc (by have:=hsec.mp h;omega)
  unfold drw
  refine ixA_o rfl (by omega) ?_
  refine ld_b (t := .I .i16) (x:=nf k) HB3.drew (FS.norm_at _ (by omega)) ?_
  refine ixA_o rfl (by omega) ?_
  refine st_u HB3.drew (by rw [FS.norm_at _ (by omega)];rfl) rfl ?_
  intro w4 HB4 F4
  rw [FS.setN (by omega),wI16 (by omega) (by omega)] at HB4
  have hle:=smI_ge gS nf hkL
  have a1:gS k (nf k)=(nf k).toNat:=by unfold gS absZ;rw [if_neg (by omega)]
  rw [a1] at hle
  have hv0:0<nf k+(((2^T:Nat):Int)-(smI gS nf L:Int)):=by omega
  have hvv:(((nf k+(((2^T:Nat):Int)-(smI gS nf L:Int))).toNat:Nat):Int)=nf k+(((2^T:Nat):Int)-(smI gS nf L:Int)):=by omega
  have hnm:∀j,j<L→updF nf k (nf k+(((2^T:Nat):Int)-(smI gS nf L:Int))) j=nmZ cs T L n j:=by
   intro j hj
   unfold nmZ updF
   rw [if_neg hs, ←hkE,hSm]
   by_cases e:j=k
   ·subst e;rw [if_pos rfl,if_pos rfl,hEx _ hj]
   ·rw [if_neg e,if_neg e,hEx j hj]
  generalize hv:nf k+(((2^T:Nat):Int)-(smI gS nf L:Int))=v at *
  have hU:=smI_upd gS nf k v L hkL
  have a2:gS k v=v.toNat:=by unfold gS absZ;rw [if_neg (by omega)]
  rw [a1,a2] at hU
  refine hk w4 (updF nf k v) ⟨?_,?_,by omega⟩ (fun h=>absurd h hs) hnm HB4 (F03.drew.trans F4 (fun x hx => .inl hx))
  ·intro j hj
   unfold updF
   by_cases e:j=k
   ·rw [if_pos e]
    have h1:=(hz j hj).1
    rw [e] at h1 ⊢
    omega
   ·rw [if_neg e];exact (hz j hj).1
  ·intro j hj
   unfold updF
   by_cases e:j=k
   ·rw [if_pos e];omega
   ·rw [if_neg e];exact (hz j hj).2.1
end
def lwZ (m:Nat):Nat:=2^(m.log2+1)-1-m
def xZ (m v:Nat):Nat:=if 2^m.log2≤v then v+lwZ m else v
def bZ (m v:Nat):Nat:=if xZ m v<lwZ m then m.log2 else m.log2+1
theorem lwZ_spec {m:Nat} (hm:0<m):2^m.log2≤m∧m<2*2^m.log2∧lwZ m=2*2^m.log2-1-m:=by
 have h1:2^m.log2≤m:=Nat.log2_self_le (by omega)
 have h2:m<2^(m.log2+1):=Nat.lt_log2_self
 have h3:2^(m.log2+1)=2*2^m.log2:=Nat.pow_succ'
 unfold lwZ
 rw [h3] at h2 ⊢
 exact ⟨h1,h2,rfl⟩
theorem xZ_lt {m v:Nat} (hm:0<m) (hv:v≤m):xZ m v<2^bZ m v:=by
 obtain ⟨h1,h2,h3⟩:=lwZ_spec hm
 have h4:2^(m.log2+1)=2*2^m.log2:=Nat.pow_succ'
 unfold bZ
 split
 ·rename_i h
  omega
 ·rw [h4]
  unfold xZ
  split<;>omega
theorem valZ_put {l:List Nat} {t m v:Nat} (hm:0<m) (hv:v≤m) (h:leN l/2^t%2^bZ m v=xZ m v) (hl:t+bZ m v≤8*l.length):valZ l t m=(v,t+bZ m v,true):=by
 obtain ⟨h1,h2,h3⟩:=lwZ_spec hm
 have h4:2^(m.log2+1)=2*2^m.log2:=Nat.pow_succ'
 have hlw:2^(m.log2+1)-1-m=lwZ m:=rfl
 unfold valZ
 simp only [Nat.add_sub_cancel,hlw]
 have hp:0<2^m.log2:=Nat.two_pow_pos _
 unfold bZ at h hl ⊢
 by_cases hc:xZ m v<lwZ m
 ·rw [if_pos hc] at h hl ⊢
  have hx:xZ m v=v:=by
   unfold xZ at hc ⊢
   by_cases hq:2^m.log2≤v
   ·rw [if_pos hq] at hc;omega
   ·rw [if_neg hq]
  have ht:tkZ l t m.log2=v:=by unfold tkZ;rw [h,hx]
  rw [ht,if_pos (by omega)]
  have:okZ l t m.log2=true:=by unfold okZ;exact decide_eq_true (.inr hl)
  rw [this]
 ·rw [if_neg hc] at h hl ⊢
  have o1:okZ l t m.log2=true:=by unfold okZ;exact decide_eq_true (.inr (by omega))
  have o2:okZ l (t+m.log2) 1=true:=by unfold okZ;exact decide_eq_true (.inr (by omega))
  have t1:tkZ l t m.log2=xZ m v%2^m.log2:=by
   unfold tkZ
   rw [←h,h4,Nat.mul_comm 2,Nat.mod_mul_right_mod]
  have t2:tkZ l (t+m.log2) 1=xZ m v/2^m.log2:=by
   unfold tkZ
   rw [←h,h4,Nat.mul_comm 2,Nat.mod_mul_right_div_self,Nat.pow_add,Nat.div_div_eq_div_mul]
  rw [t1,t2,o1,o2]
  generalize hP:2^m.log2=P at *
  have hx:xZ m v<2*P:=by
   unfold xZ;rw [hP];split<;>omega
  by_cases hq:P≤v
  ·have hxv:xZ m v=v+lwZ m:=by unfold xZ;rw [hP,if_pos hq]
   have d1:xZ m v/P=1:=Nat.div_eq_of_lt_le (by omega) (by omega)
   have d2:xZ m v%P=xZ m v-P:=by
    rw [Nat.mod_eq_sub_mod (by omega),Nat.mod_eq_of_lt (by omega)]
   rw [d1,d2,if_neg (by omega),Nat.one_mul,if_pos (by omega)]
   simp only [Bool.and_self,Prod.mk.injEq,and_true]
   omega
  ·have hxv:xZ m v=v:=by unfold xZ;rw [hP,if_neg hq]
   have d1:xZ m v/P=0:=Nat.div_eq_of_lt (by omega)
   have d2:xZ m v%P=xZ m v:=Nat.mod_eq_of_lt (by omega)
   rw [d1,d2,if_neg hc,Nat.zero_mul,Nat.add_zero,if_neg (by omega),hxv]
   rfl
def RD (T V t:Nat) (res:List Nat→Option (HS×Nat)):Prop:=V<2^t∧4≤t∧V%16=T-5∧∀l,By l→leN l%2^t=V→t≤8*l.length→readZ l ⟨4,true,[]⟩ (2^T)=res l
theorem RD.start {T:Nat} (hT:T=5∨T=6):RD T (T-5) 4 (fun l=>readZ l ⟨4,true,[]⟩ (2^T)):=⟨by omega,Nat.le_refl _,by omega,fun _ _ _ _=>rfl⟩
theorem mod_split {N V x t m:Nat} (hV:V<2^t) (hx:x<2^m) (h:N%2^(t+m)=V+x*2^t):N%2^t=V∧N/2^t%2^m=x:=by
 have hp:0<2^t:=Nat.two_pow_pos _
 rw [Nat.pow_add,Nat.mod_mul] at h
 have ha:N%2^t<2^t:=Nat.mod_lt _ hp
 generalize N%2^t=a at *
 generalize N/2^t%2^m=q at *
 have h1:(a+2^t*q)%2^t=a:=by rw [Nat.add_mul_mod_self_left,Nat.mod_eq_of_lt ha]
 have h2:(V+x*2^t)%2^t=V:=by rw [Nat.add_mul_mod_self_right,Nat.mod_eq_of_lt hV]
 have h3:(a+2^t*q)/2^t=q:=by rw [Nat.add_mul_div_left _ _ hp,Nat.div_eq_of_lt ha,Nat.zero_add]
 have h4:(V+x*2^t)/2^t=x:=by rw [Nat.add_mul_div_right _ _ hp,Nat.div_eq_of_lt hV,Nat.zero_add]
 rw [h] at h1 h3
 omega
theorem put_lt {V x t m:Nat} (hV:V<2^t) (hx:x<2^m):V+x*2^t<2^(t+m):=by
 have h1:(x+1)*2^t≤2^m*2^t:=Nat.mul_le_mul_right _ hx
 rw [Nat.pow_add,Nat.mul_comm (2^t)]
 rw [Nat.add_mul,Nat.one_mul] at h1
 omega
theorem RD.ext {T V t x m:Nat} {res res':List Nat→Option (HS×Nat)} (h:RD T V t res) (hx:x<2^m) (hr:∀l,By l→leN l/2^t%2^m=x→t+m≤8*l.length→res l=res' l):RD T (V+x*2^t) (t+m) res':=by
 obtain ⟨h1,h2,h3,h4⟩:=h
 refine ⟨put_lt h1 hx,by omega,?_,?_⟩
 ·rw [show t=(t-4)+4 by omega,Nat.pow_add, ←Nat.mul_assoc]
  show (V+x*2^(t-4)*16)%16=T-5
  rw [Nat.add_mul_mod_self_right];exact h3
 ·intro l hb hl ht
  obtain ⟨a1,a2⟩:=mod_split h1 hx hl
  rw [h4 l hb a1 (by omega)]
  exact hr l hb a2 ht
theorem readZ_put {l:List Nat} {t left v:Nat} {cs:List Int} (h0:0<left) (hc:cs.length≤255) (hv:v≤left+1) (h:leN l/2^t%2^bZ (left+1) v=xZ (left+1) v) (hl:t+bZ (left+1) v≤8*l.length) :
  readZ l ⟨t,true,cs⟩ left=readZ l (if v=1 then zerosZ l ⟨t+bZ (left+1) v,true,cs ++ [(v:Int)-1]⟩ else ⟨t+bZ (left+1) v,true,cs ++ [(v:Int)-1]⟩) (leftZ v left):=by
 have hz:=valZ_put (l:=l) (by omega) hv h hl
 rw [readZ]
 rw [if_pos ⟨h0,rfl⟩,dif_neg (by simp only;omega)]
 simp only [nextZ,stepZ,hz,Bool.and_self]
theorem zerosZ_3 {l:List Nat} {t:Nat} {cs:List Int} (h:leN l/2^t%2^2=3) (hl:t+2≤8*l.length) (hc:cs.length+3≤256):zerosZ l ⟨t,true,cs⟩=zerosZ l ⟨t+2,true,cs++List.replicate 3 0⟩:=by
 have hk:tkZ l t 2=3:=h
 have o:okZ l t 2=true:=by unfold okZ;exact decide_eq_true (.inr hl)
 rw [zerosZ]
 simp only [hk,o,if_true,Bool.and_self]
 rw [dif_neg (by omega)]
theorem zerosZ_r {l:List Nat} {t r:Nat} {cs:List Int} (h:leN l/2^t%2^2=r) (hr:r<3) (hl:t+2≤8*l.length):zerosZ l ⟨t,true,cs⟩=⟨t+2,true,cs++List.replicate r 0⟩:=by
 have hk:tkZ l t 2=r:=h
 have o:okZ l t 2=true:=by unfold okZ;exact decide_eq_true (.inr hl)
 rw [zerosZ]
 simp only [hk,o,if_true,Bool.and_self]
 rw [dif_pos (.inl hr)]
theorem RD.done {T V t:Nat} {ns:List Int} (h:RD T V t (fun l=>readZ l ⟨t,true,ns⟩ 0)) (hT:T=5∨T=6) {H rest:List Nat} (hH:By H) (hr:By rest) (hv:leN H=V) (hlen:H.length=(t+7)/8) (hn:ns.length≤256):fseRead (H++rest)=some (ns,T,rest):=by
 obtain ⟨h1,h2,h3,h4⟩:=h
 have hb:By (H++rest):=hH.app hr
 have hl:leN (H++rest)%2^t=V:=by
  rw [leN_append,hv,hlen]
  have e:(256:Nat)^((t+7)/8)=2^t*2^(8*((t+7)/8)-t):=by
   rw [←Nat.pow_add,show t+(8*((t+7)/8)-t)=8*((t+7)/8) by omega,Nat.pow_mul]
  rw [e,Nat.mul_assoc,Nat.add_mul_mod_self_left,Nat.mod_eq_of_lt h1]
 have h5:readZ (H++rest) ⟨4,true,[]⟩ (2^T)=readZ (H++rest) ⟨t,true,ns⟩ 0:=h4 _ hb hl (by rw [List.length_append,hlen];omega)
 have h16:leN (H++rest)%16=T-5:=by
  rw [←h3, ←hl]
  have:(2:Nat)^t=16*2^(t-4):=by rw [show (16:Nat)=2^4 from rfl, ←Nat.pow_add,show 4+(t-4)=t by omega]
  rw [this,Nat.mod_mul_right_mod]
 have hk:tkZ (H++rest) 0 4=T-5:=by unfold tkZ;rw [Nat.pow_zero,Nat.div_one];exact h16
 have ho:okZ (H++rest) 0 4=true:=by unfold okZ;exact decide_eq_true (.inr (by rw [List.length_append,hlen];omega))
 have hTT:T-5+5=T:=by omega
 unfold fseRead
 rw [hk,ho,hTT,if_neg (by omega),h5]
 have h0:readZ (H++rest) ⟨t,true,ns⟩ 0=some (⟨t,true,ns⟩,0):=by rw [readZ,if_neg (by omega)]
 rw [h0]
 simp only [true_and]
 rw [if_pos hn, ←hlen,List.drop_left]
structure WS (w:World) (ob cap:Nat) (F:Cells) (ol:List Nat) (bs bc V t:Nat):Prop where
 blk:Blk w ob F
 som:Som cap F
 byt:By ol
 cel:∀j (h:j<ol.length),F j=some (.int .u8 (ol[j]:Nat))
 val:leN ol+2^(8*ol.length)*bs=V
 tot:8*ol.length+bc=t
 lt:bs<2^bc
 ev:ol.length%2=0
theorem WS.put {w:World} {ob cap:Nat} {F:Cells} {ol:List Nat} {bs bc V t x m:Nat} (h:WS w ob cap F ol bs bc V t) (hx:x<2^m):WS w ob cap F ol (bs+x*2^bc) (bc+m) (V+x*2^t) (t+m) :=
 ⟨h.blk,h.som,h.byt,h.cel,content_add ol bs bc x V t h.val h.tot,by have:=h.tot;omega,put_lt h.lt hx,h.ev⟩
theorem leB2 (n:Nat):leB n 2 = [n%256,n/256%256]:=rfl
theorem two_b {w:World} {ob o cap mh bs:Nat} {F:Cells} {κ:PT} (B:Blk w ob F) (hS:Som cap F) (hbs:bs<2^31) (ho:o+2≤mh) (hm:mh≤cap) (ho2:o<2^30)
  (hk:∀w',Blk w' ob (updC (updC F o (.int .u8 ((bs%256:Nat):Int))) (o+1) (.int .u8 ((bs/256%256:Nat):Int)))→Fm w w' [ob]→κ w') :
  (ixS 1 ⟨some ⟨ob,0,none⟩,mh,cap⟩ (o:Int) fun (p:Addr)=>st p (.int .u8 (IntKind.wrap .u8 (bs:Int)))<|req (0≤(8:Int))<|ixS 1 ⟨some ⟨ob,0,none⟩,mh,cap⟩ (IntKind.wrap .u64 ((o:Int)+(1:Int))) fun (p:Addr)=>st p (.int .u8 (IntKind.wrap .u8 (shrI .u32 (bs:Int) (8:Int))))<|κ) w:=by
 have e1:IntKind.u8.wrap (bs:Int)=((bs%256:Nat):Int):=wrap_u (k := .u8) rfl bs
 have e2:IntKind.u8.wrap (shrI .u32 (bs:Int) 8)=((bs/256%256:Nat):Int):=by
  have h1:shrI .u32 (bs:Int) 8=((bs/2^8:Nat):Int):=shrI_nat .u32 bs 8 (by simp only [IntKind.bits];omega)
  rw [h1];exact wrap_u (k := .u8) rfl (bs/2^8)
 rw [e1,e2]
 refine ixS_o rfl (by omega) ?_
 rw [Nat.zero_add]
 refine st_u B (hS _ (by omega)) rfl ?_
 intro w2 B2 F2
 refine ⟨by decide,?_⟩
 refine ixS_o (k:=o+1) (by rw [wU64 (by omega) (by omega)];omega) (by omega) ?_
 rw [Nat.zero_add]
 refine st_u B2 (hS.upd _ (by omega)) rfl ?_
 intro w3 B3 F3
 exact hk w3 B3 (F2.trans F3 (fun x hx => .inl hx))
theorem WS.flush {w:World} {ob cap mh:Nat} {F:Cells} {ol:List Nat} {bs bc V t:Nat} {κ:PT} (h:WS w ob cap F ol bs bc V t) (hbs:bs<2^31) (ho:ol.length+2≤mh) (hm:mh≤cap) (ho2:ol.length<2^30) (hbc:16≤bc)
  (hk:∀w' F',WS w' ob cap F' (ol++leB bs 2) (bs/65536) (bc-16) V t→Fm w w' [ob]→κ w') :
  (ixS 1 ⟨some ⟨ob,0,none⟩,mh,cap⟩ (ol.length:Int) fun (p:Addr)=>st p (.int .u8 (IntKind.wrap .u8 (bs:Int)))<|req (0≤(8:Int))<|ixS 1 ⟨some ⟨ob,0,none⟩,mh,cap⟩ (IntKind.wrap .u64 ((ol.length:Int)+(1:Int))) fun (p:Addr)=>st p (.int .u8 (IntKind.wrap .u8 (shrI .u32 (bs:Int) (8:Int))))<|κ) w:=by
 refine two_b h.blk h.som hbs ho hm ho2 ?_
 intro w' B' F'
 have hlen:(ol++leB bs 2).length=ol.length+2:=by rw [List.length_append,leB_len]
 have hev:=h.ev
 have htot:=h.tot
 refine hk w' _ ⟨B',h.som.upd.upd,h.byt.app (leB_by _ _),?_,?_,?_,?_,?_⟩ F'
 ·intro j hj
  rw [hlen] at hj
  unfold updC
  by_cases e1:j=ol.length+1
  ·subst e1
   rw [if_pos rfl,List.getElem_append_right (by omega)]
   simp [leB2]
  ·rw [if_neg e1]
   by_cases e2:j=ol.length
   ·subst e2
    rw [if_pos rfl,List.getElem_append_right (by omega)]
    simp [leB2]
   ·rw [if_neg e2,List.getElem_append_left (by omega)]
    exact h.cel j (by omega)
 ·exact content_out ol bs 2 V h.val
 ·rw [hlen];omega
 ·have:=h.lt
  have e:(2:Nat)^bc=2^(bc-16)*65536:=by rw [show (65536:Nat)=2^16 from rfl, ←Nat.pow_add,show bc-16+16=bc by omega]
  rw [e] at this
  exact (Nat.div_lt_iff_lt_mul (by decide)).mpr this
 ·rw [hlen];omega
theorem take_zeros {ns:List Int} {s:Nat} : ∀ {k:Nat},s+k≤ns.length→(∀m,s≤m→m<s+k→ns.getD m 0=0)→ns.take (s+k)=ns.take s++List.replicate k 0
 | 0,_,_=>by simp
 | k+1,hk,hz=>by
  have h1:s+k<ns.length:=by omega
  have h2:=hz (s+k) (by omega) (by omega)
  rw [getD_Z h1] at h2
  rw [←Nat.add_assoc,List.take_succ_eq_append_getElem h1,take_zeros (by omega) (fun m h3 h4=>hz m h3 (by omega)),h2,List.replicate_succ',List.append_assoc]
theorem cumZ_zeros {ns:List Int} {i j:Nat} (h1:i≤j) (h2:j≤ns.length) (hz:∀m,i≤m→m<j→ns.getD m 0=0):cumZ ns j=cumZ ns i:=by
 have:=take_zeros (s:=i) (k:=j-i) (by omega) (fun m a b=>hz m a (by omega))
 rw [Nat.add_sub_cancel' h1] at this
 unfold cumZ
 rw [this]
 unfold sumZ
 rw [List.map_append,List.sum_append]
 simp [absZ]
theorem room {T L t o:Nat} (hT:T=5∨T=6) (hL:L≤12) (he:o%2=0) (h:8*o+1≤t) (ht:t≤5+T*L+2*(L/2)):o+2≤(L*T+6)/8+3:=by
 have hc:L=0∨L=1∨L=2∨L=3∨L=4∨L=5∨L=6∨L=7∨L=8∨L=9∨L=10∨L=11∨L=12:=by omega
 rcases hT with rfl|rfl<;>rcases hc with rfl|rfl|rfl|rfl|rfl|rfl|rfl|rfl|rfl|rfl|rfl|rfl|rfl<;>omega
inductive HBt (T:Nat) (ns:List Int):Nat→Bool→Nat→Prop
 | start:HBt T ns 0 false 4
 | share {i t:Nat} : HBt T ns i false t→i<ns.length→HBt T ns (i+1) (decide (ns.getD i 0=0)) (t+bZ (2^T+1-cumZ ns i) (ns.getD i 0+1).toNat)
 | run {i j t:Nat} : HBt T ns i true t→i≤j→j<ns.length→(∀m,i≤m→m<j→ns.getD m 0=0)→ns.getD j 0≠0→HBt T ns (j+1) (decide (ns.getD j 0=0)) (t+2*((j-i)/3)+2+bZ (2^T+1-cumZ ns j) (ns.getD j 0+1).toNat)
section
variable {T L:Nat} {w:World} {b ob cap mh:Nat} {S:FS} {ns:List Int} {F:Cells} {ol:List Nat} {bs bc V t:Nat}
theorem wc_run {R15:Int×Int×Int×Int→PT} {i left B:Nat} {x5 x6 x7:Int} (H:NS S ns T L) (hL12:L≤12) (hlast:ns.getD (L-1) 0≠0) (HB:Blk w b S.at) (hW:WS w ob cap F ol bs bc V t) (hbc1:1≤bc) (hbc:bc≤16) (hiL:i<L)
  (hRD:RD T V t (fun l=>readZ l (zerosZ l ⟨t,true,ns.take i⟩) left)) (hB:B≤1) (hlim:t+2≤4+B+T*i+2*((i+1)/2)) (dbo:b≠ob) (hmh:mh=(L*T+6)/8+3) (hcap:mh≤cap)
  (hk:∀w' j ol' bs' bc' V' t' F',t'=t+2*((j-i)/3)+2→i≤j→j<L→(∀m,i≤m→m<j→ns.getD m 0=0)→ns.getD j 0≠0→WS w' ob cap F' ol' bs' bc' V' t'→1≤bc'→bc'≤16→RD T V' t' (fun l=>readZ l ⟨t',true,ns.take j⟩ left)→t'≤4+B+T*j+2*((j+1)/2)→Fm w w' [ob]→R15 ((j:Int),(bs':Int),(bc':Int),(ol'.length:Int)) w') :
  joinP (fun R16=>loopP (i:Int) (q112_L0 ⟨b,0,none⟩ R16)) (q112_J5 ⟨some ⟨ob,0,none⟩,mh,cap⟩ (true,(i:Int),(bs:Int),(bc:Int),x5,x6,x7,(ol.length:Int)) R15) w:=by
 have hlen:=H.len
 have hl2:=H.l2
 have hT6:T=5∨T=6:=H.log
 have hTL:T*L≤6*12:=Nat.mul_le_mul (by omega) hL12
 refine ⟨fun x w'=>w'=w∧∃j:Nat,x=(j:Int)∧i≤j∧j<L∧(∀m,i≤m→m<j→ns.getD m 0=0)∧ns.getD j 0≠0,?_,?_⟩
 ·rintro x w' ⟨rfl,j,rfl,hij,hjL,hz,hj0⟩
  unfold q112_J5
  refine joinP_id ?_
  refine ⟨fun x w2=>w2=w'∧x=((bs:Int),(ol.length:Int),(i:Int)),fun _ _=>0,⟨rfl,rfl⟩,?_⟩
  rintro x w2 ⟨rfl,rfl⟩
  unfold q112_L1
  simp only
  refine cnd_d (fun h => ?_) (fun _ => ?_)
  ·rw [wU16 (by omega) (by omega)] at h;omega
  unfold q112_J4
  simp only
  have hTi:T*(i+(j-i)+1)≤T*L:=Nat.mul_le_mul_left _ (by omega)
  have hTm:5*(j-i)≤T*(j-i):=Nat.mul_le_mul_right _ (by omega)
  rw [Nat.mul_add,Nat.mul_add,Nat.mul_one] at hTi
  have hTj:T*j=T*i+T*(j-i):=by rw [←Nat.mul_add,Nat.add_sub_cancel' hij]
  refine ⟨fun x w3=>w3=w2∧∃q bs2 V2:Nat,x=((bs2:Int),((bc+2*q:Nat):Int),((i+3*q:Nat):Int))∧i+3*q≤j∧j<i+3*q+3∧WS w2 ob cap F ol bs2 (bc+2*q) V2 (t+2*q)∧RD T V2 (t+2*q) (fun l=>readZ l (zerosZ l ⟨t+2*q,true,ns.take (i+3*q)⟩) left),?_,?_⟩
  ·rintro x w3 ⟨rfl,q,bs2,V2,rfl,hq1,hq2,hW2,hR2⟩
   have hlt2:=hW2.lt
   have hp:2^(bc+2*q)≤2^24:=Nat.pow_le_pow_right (by omega) (by omega)
   unfold q112_J3
   simp only
   have e1:IntKind.u32.wrap (IntKind.u16.wrap ((j:Int)-((i+3*q:Nat):Int)))=((j-(i+3*q):Nat):Int):=by rw [wU16 (by omega) (by omega),wU32 (by omega) (by omega)];omega
   have hr3:j-(i+3*q)<3:=by omega
   have hrd:=hR2.ext (x:=j-(i+3*q)) (m:=2) (res':=fun l=>readZ l ⟨t+2*q+2,true,ns.take j⟩ left) (by omega) (by
    intro l hb hx hl
    have:=take_zeros (ns:=ns) (s:=i+3*q) (k:=j-(i+3*q)) (by omega) (fun m h1 h2=>hz m (by omega) (by omega))
    rw [show i+3*q+(j-(i+3*q))=j by omega] at this
    rw [zerosZ_r hx hr3 hl, ←this])
   have hW3:=hW2.put (x:=j-(i+3*q)) (m:=2) (by omega)
   generalize j-(i+3*q)=r3 at *
   have hr4:r3*2^(bc+2*q)≤2*2^24:=Nat.mul_le_mul (by omega) hp
   have e2:shlI .u32 (r3:Int) ((bc+2*q:Nat):Int)=((r3*2^(bc+2*q):Nat):Int):=shlI_nat .u32 r3 (bc+2*q) (by simp only [IntKind.bits];omega) (by simp only [IntKind.bits];omega)
   have e3:IntKind.u32.wrap ((bs2:Int)+((r3*2^(bc+2*q):Nat):Int))=((bs2+r3*2^(bc+2*q):Nat):Int):=by rw [wU32 (by omega) (by omega)];omega
   have e4:IntKind.u64.wrap (((bc+2*q:Nat):Int)+2)=((bc+2*q+2:Nat):Int):=by rw [wU64 (by omega) (by omega)];omega
   rw [e1,e2,e3,e4]
   have hbs3:bs2+r3*2^(bc+2*q)<2^31:=by omega
   have htot:=hW3.tot
   have htl:t+2*q+2≤4+B+T*j+2*((j+1)/2):=by omega
   generalize bs2+r3*2^(bc+2*q)=bs3 at *
   generalize V2+r3*2^(t+2*q)=V3 at *
   refine ⟨by omega,?_⟩
   refine cnd_d ?_ ?_
   ·intro hc
    refine hW3.flush hbs3 (by rw [hmh];exact room hT6 hL12 hW3.ev (t:=t+2*q+2) (by omega) (by omega)) hcap (by omega) (by omega) ?_
    intro w4 F4 hW4 Fr4
    refine ⟨by decide,?_⟩
    have e5:shrI .u32 (bs3:Int) 16=((bs3/65536:Nat):Int):=shrI_nat .u32 bs3 16 (by simp only [IntKind.bits];omega)
    have e6:IntKind.u64.wrap (((bc+2*q+2:Nat):Int)-16)=((bc+2*q+2-16:Nat):Int):=by rw [wU64 (by omega) (by omega)];omega
    have e7:IntKind.u64.wrap ((ol.length:Int)+2)=(((ol++leB bs3 2).length:Nat):Int):=by rw [wU64 (by omega) (by omega),List.length_append,leB_len];omega
    rw [e5,e6,e7]
    exact hk w4 j _ _ _ _ _ F4 (by omega) hij hjL hz hj0 hW4 (by omega) (by omega) hrd htl Fr4
   ·intro hc
    exact hk w3 j _ _ _ _ _ F (by omega) hij hjL hz hj0 hW3 (by omega) (by omega) hrd htl (Fm.refl _ _)
  ·refine ⟨fun x w3=>w3=w2∧∃q bs2 V2:Nat,x=((bs2:Int),((bc+2*q:Nat):Int),((i+3*q:Nat):Int))∧i+3*q≤j∧WS w2 ob cap F ol bs2 (bc+2*q) V2 (t+2*q)∧RD T V2 (t+2*q) (fun l=>readZ l (zerosZ l ⟨t+2*q,true,ns.take (i+3*q)⟩) left),
    fun x _=>L-x.2.2.toNat,⟨rfl,0,bs,V,rfl,by omega,hW,hRD⟩,?_⟩
   rintro x w3 ⟨rfl,q,bs2,V2,rfl,hq1,hW2,hR2⟩
   have hlt2:=hW2.lt
   have hp:2^(bc+2*q)≤2^24:=Nat.pow_le_pow_right (by omega) (by omega)
   unfold q112_L2
   simp only
   rw [wU16 (x:=((i+3*q:Nat):Int)+3) (by omega) (by omega)]
   refine cnd_d ?_ ?_
   ·intro hc
    refine ⟨by omega,?_⟩
    have hr4:3*2^(bc+2*q)≤3*2^24:=Nat.mul_le_mul_left _ hp
    have e2:shlI .u32 3 ((bc+2*q:Nat):Int)=((3*2^(bc+2*q):Nat):Int):=shlI_nat .u32 3 (bc+2*q) (by simp only [IntKind.bits];omega) (by simp only [IntKind.bits];omega)
    have e3:IntKind.u32.wrap ((bs2:Int)+((3*2^(bc+2*q):Nat):Int))=((bs2+3*2^(bc+2*q):Nat):Int):=by rw [wU32 (by omega) (by omega)];omega
    have e4:IntKind.u64.wrap (((bc+2*q:Nat):Int)+2)=((bc+2*(q+1):Nat):Int):=by rw [wU64 (by omega) (by omega)];omega
    rw [e2,e3,e4]
    refine ⟨⟨rfl,q+1,_,_,by rw [show ((i+3*q:Nat):Int)+3=((i+3*(q+1):Nat):Int) by omega],by omega,hW2.put (x:=3) (m:=2) (by decide),?_⟩,by omega⟩
    refine hR2.ext (x:=3) (m:=2) (by decide) ?_
    intro l hb hx hl
    have:=take_zeros (ns:=ns) (s:=i+3*q) (k:=3) (by omega) (fun m h1 h2=>hz m (by omega) (by omega))
    rw [zerosZ_3 hx hl (by rw [List.length_take];omega), ←this]
    rfl
   ·intro hc
    exact ⟨rfl,q,bs2,V2,rfl,hq1,by omega,hW2,hR2⟩
 ·refine ⟨fun x w'=>w'=w∧∃j:Nat,x=(j:Int)∧i≤j∧j<L∧(∀m,i≤m→m<j→ns.getD m 0=0),fun x _=>L-x.toNat,⟨rfl,i,rfl,Nat.le_refl _,hiL,fun m h1 h2=>by omega⟩,?_⟩
  rintro x w' ⟨rfl,j,rfl,hij,hjL,hz⟩
  have hj3:j<ns.length:=by omega
  unfold q112_L0
  simp only [add_mk,Nat.zero_add]
  refine ixA_o rfl (by omega) ?_
  refine ld_b (t := .I .i16) (x:=ns[j]) HB (H.at hj3) ?_
  have hg:=getD_Z hj3
  refine cnd_d ?_ ?_
  ·intro h0
   have hne:j≠L-1:=by intro e;rw [←e,hg] at hlast;exact hlast h0
   rw [wU16 (by omega) (by omega)]
   refine ⟨⟨rfl,j+1,by simp,by omega,by omega,?_⟩,by omega⟩
   intro m h1 h2
   by_cases e:m=j
   ·subst e;rw [hg];exact h0
   ·exact hz m h1 (by omega)
  ·intro h0
   exact ⟨rfl,j,rfl,hij,hjL,hz,by rw [hg];exact h0⟩
end
section
variable {T L:Nat} {w:World} {b ob cap mh:Nat} {S:FS} {ns:List Int} {F:Cells} {ol:List Nat} {bs bc V t:Nat}
def WI (T L:Nat) (ns:List Int) (w0:World) (ob cap:Nat) (i:Nat) (x:Bool×Int×Int×Int×Int×Int×Int×Int) (w':World):Prop :=
 ∃(p0:Bool) (bs bc r k V t B:Nat) (ol:List Nat) (F:Cells),x=(p0,(i:Int),(bs:Int),(bc:Int),(r:Int),((2^k:Nat):Int),((k+1:Nat):Int),(ol.length:Int))∧HBt T ns i p0 t∧WS w' ob cap F ol bs bc V t∧1≤bc∧bc≤16∧i≤L∧r=2^T+1-cumZ ns i∧r.log2=k ∧
  RD T V t (fun l=>readZ l (if p0=true then zerosZ l ⟨t,true,ns.take i⟩ else ⟨t,true,ns.take i⟩) (r-1))∧B≤1∧(B=1→r≤4)∧(p0=true→t+2≤4+B+T*i+2*((i+1)/2)∧1<r)∧(p0=false→t≤4+B+T*i+2*(i/2))∧Fm w0 w' [ob]
theorem log2_of {r k:Nat} (h1:2^k≤r) (h2:r<2^(k+1)):r.log2=k:=by
 have h0:r≠0:=by have:=Nat.two_pow_pos k;omega
 have a:=(Nat.le_log2 h0).mpr h1
 have b:=(Nat.log2_lt h0).mpr h2
 omega
set_option maxHeartbeats 1600000 in
theorem wc_share {w0:World} {K1:Value→PT} {A14:(Bool×Int×Int×Int×Int×Int×Int×Int)→PT} {i r k B:Nat} {x0:Bool} {x1 x2 x3 x7:Int} (H:NS S ns T L) (hL12:L≤12) (HB:Blk w b S.at) (hW:WS w ob cap F ol bs bc V t) (hbc1:1≤bc) (hbc:bc≤16) (hiL:i<L)
  (hr:r=2^T+1-cumZ ns i) (hr1:1<r) (hk:r.log2=k) (hRD:RD T V t (fun l=>readZ l ⟨t,true,ns.take i⟩ (r-1))) (hB:B≤1) (hB4:B=1→r≤4)
  (hlim:t≤4+B+T*i+2*(i/2)∨(ns.getD i 0≠0∧t≤4+B+T*i+2*((i+1)/2))) (dbo:b≠ob) (hmh:mh=(L*T+6)/8+3) (hcap:mh≤cap) (Fr0:Fm w0 w [ob]) (hHB:HBt T ns (i+1) (decide (ns.getD i 0=0)) (t+bZ r (ns.getD i 0+1).toNat))
  (hA:∀x' w',WI T L ns w0 ob cap (i+1) x' w'→A14 x' w') :
  q112_J11 ⟨b,0,none⟩ K1 ⟨some ⟨ob,0,none⟩,mh,cap⟩ (x0,x1,x2,x3,(r:Int),((2^k:Nat):Int),((k+1:Nat):Int),x7) A14 ((i:Int),(bs:Int),(bc:Int),(ol.length:Int)) w:=by
 have hlen:=H.len
 have hl2:=H.l2
 have hTp:=H.log.pow
 have hT6:T=5∨T=6:=H.log
 have hTL:T*L≤6*12:=Nat.mul_le_mul (by omega) hL12
 have hi3:i<ns.length:=by omega
 have hbn:=H.bnd hi3
 have hg:=getD_Z hi3
 have hcu:=cumZ_succ hi3
 have hcl:=cumZ_le ns (i+1)
 have hsum:=H.sum
 obtain ⟨s1,s2,s3⟩:=lwZ_spec (m:=r) (by omega)
 rw [hk] at s1 s2 s3
 have hkT:k≤T:=by
  have:r.log2<T+1:=(Nat.log2_lt (by omega)).mpr (by rw [Nat.pow_succ];omega)
  omega
 unfold q112_J11
 simp only [add_mk,Nat.zero_add]
 refine ixA_o rfl (by omega) ?_
 refine ld_b (t := .I .i16) (x:=ns[i]) HB (H.at hi3) ?_
 rw [hg] at hHB
 generalize hn:ns[i]=n at *
 have hv:n+1=(((n+1).toNat:Nat):Int):=by omega
 generalize hvv:(n+1).toNat=v at *
 have ha:absZ n=if v=0 then 1 else v-1:=by unfold absZ;split<;>split<;>omega
 generalize absZ n=a at *
 have hvr:v≤r:=by split at ha<;>omega
 have hr':1≤r-a:=by omega
 have hr'2:r-a=2^T+1-cumZ ns (i+1):=by omega
 have ethr:IntKind.i16.wrap (IntKind.i16.wrap (IntKind.i16.wrap (2*((2^k:Nat):Int))-1)-(r:Int))=((lwZ r:Nat):Int):=by
  rw [wI16 (x:=2*((2^k:Nat):Int)) (by omega) (by omega),wI16 (x:=2*((2^k:Nat):Int)-1) (by omega) (by omega),wI16 (by omega) (by omega)];omega
 have ev:IntKind.i16.wrap (n+1)=((v:Nat):Int):=by rw [wI16 (by omega) (by omega)];exact hv
 have hk1:1≤k:=by
  have:1≤r.log2:=(Nat.le_log2 (by omega)).mpr (by omega)
  omega
 have hpk:2≤2^k:=by
  have:2^1≤2^k:=Nat.pow_le_pow_right (by omega) hk1
  omega
 have hX:xZ r v=if 2^k≤v then v+lwZ r else v:=by unfold xZ;rw [hk]
 have hXlt:=xZ_lt (m:=r) (v:=v) (by omega) hvr
 have hbz:bZ r v=if xZ r v<lwZ r then k else k+1:=by unfold bZ;rw [hk]
 have hX1:xZ r v=1↔v=1:=by rw [hX];split<;>omega
 have hn01:n=0↔v=1:=by omega
 have fin:∀X:Nat,X=xZ r v→q112_J9 K1 ⟨some ⟨ob,0,none⟩,mh,cap⟩ (x0,x1,x2,x3,(r:Int),((2^k:Nat):Int),((k+1:Nat):Int),x7) A14 ((i:Int),(bs:Int),(bc:Int),(ol.length:Int)) ((r-a:Nat):Int) (X:Int) w:=by
  intro X hXe
  rw [←hXe] at hX hXlt hbz hX1
  have hX200:X≤200:=by rw [hX];split<;>omega
  unfold q112_J9
  simp only
  refine ⟨by omega,?_⟩
  have last:∀m:Nat,m=bZ r v→q112_J8 K1 ⟨some ⟨ob,0,none⟩,mh,cap⟩ (x0,x1,x2,x3,(r:Int),((2^k:Nat):Int),((k+1:Nat):Int),x7) A14 ((i:Int),(bs:Int),(bc:Int),(ol.length:Int)) ((r-a:Nat):Int) (X:Int) ((bc+m:Nat):Int) w:=by
   intro m hm
   rw [←hm] at hXlt hbz hHB
   have hm8:m≤7:=by rw [hbz];split<;>omega
   unfold q112_J8
   simp only
   refine cnd_d (fun h=>absurd h (by omega)) (fun _ => ?_)
   refine ⟨fun x w'=>w'=w∧x=(((2^(r-a).log2:Nat):Int),(((r-a).log2+1:Nat):Int)),?_,?_⟩
   ·rintro x w' ⟨rfl,rfl⟩
    unfold q112_J7
    simp only
    have hlt:=hW.lt
    have hp:2^bc≤2^16:=Nat.pow_le_pow_right (by omega) hbc
    have hXp:X*2^bc≤200*2^16:=Nat.mul_le_mul hX200 hp
    have e1:IntKind.u32.wrap (X:Int)=(X:Int):=wU32 (by omega) (by omega)
    have e2:shlI .u32 (X:Int) (bc:Int)=((X*2^bc:Nat):Int):=shlI_nat .u32 X bc (by simp only [IntKind.bits];omega) (by simp only [IntKind.bits];omega)
    have e3:IntKind.u32.wrap ((bs:Int)+((X*2^bc:Nat):Int))=((bs+X*2^bc:Nat):Int):=by rw [wU32 (by omega) (by omega)];omega
    have e4:IntKind.u16.wrap ((i:Int)+1)=((i+1:Nat):Int):=by rw [wU16 (by omega) (by omega)];omega
    rw [e1,e2,e3,e4]
    have hW2:=hW.put hXlt
    have hbs3:bs+X*2^bc<2^31:=by omega
    have hleft:leftZ v (r-1)=r-a-1:=by unfold leftZ;split at ha<;>split<;>omega
    have htk:ns.take (i+1)=ns.take i ++ [(v:Int)-1]:=by
     rw [List.take_succ_eq_append_getElem hi3,hn,show (v:Int)-1=n by omega]
    have hR2:RD T (V+X*2^t) (t+m) (fun l=>readZ l (if v=1 then zerosZ l ⟨t+m,true,ns.take (i+1)⟩ else ⟨t+m,true,ns.take (i+1)⟩) (r-a-1)):=by
     refine hRD.ext hXlt ?_
     intro l hb hx hl
     have hrr:r-1+1=r:=by omega
     have:=readZ_put (l:=l) (t:=t) (left:=r-1) (v:=v) (cs:=ns.take i) (by omega) (by rw [List.length_take];omega) (by omega) (by rw [hrr, ←hm, ←hXe];exact hx) (by rw [hrr, ←hm];exact hl)
     rw [hrr, ←hm,hleft, ←htk] at this
     exact this
    have htot:=hW2.tot
    have hTi:T*(i+1)≤T*L:=Nat.mul_le_mul_left _ (by omega)
    have hTs:T*(i+1)=T*i+T:=Nat.mul_succ _ _
    have hbits:m≤T∨(m=T+1∧r-a≤4∧32≤r):=by
     by_cases hkk:k<T
     ·left;rw [hbz];split<;>omega
     ·have hke:k=T:=by omega
      subst hke
      by_cases hc:X<lwZ r
      ·left;rw [hbz,if_pos hc];exact Nat.le_refl _
      ·right
       rw [hbz,if_neg hc]
       refine ⟨rfl,?_,by omega⟩
       split at hX<;>split at ha<;>omega
    have hB':∃B',B'≤1∧(B'=1→r-a≤4)∧B+m≤B'+T:=by
     rcases hbits with h|⟨h1,h2,h3⟩
     ·exact ⟨B,hB,(fun e=>by have:=hB4 e;omega),by omega⟩
     ·exact ⟨1,Nat.le_refl _,fun _=>h2,by omega⟩
    obtain ⟨B',hb1,hb2,hb3⟩:=hB'
    have hlim2:(v=1→t+m+2≤4+B'+T*(i+1)+2*((i+1+1)/2))∧(v≠1→t+m≤4+B'+T*(i+1)+2*((i+1)/2)):=by
     refine ⟨?_,?_⟩
     ·intro h1
      rcases hlim with h|⟨h,_⟩
      ·omega
      ·rw [hg] at h;omega
     ·intro h1
      rcases hlim with h|⟨_,h⟩<;>omega
    have hall:t+m≤5+T*L+2*(L/2):=by
     by_cases h1:v=1
     ·have:=hlim2.1 h1;omega
     ·have:=hlim2.2 h1;omega
    generalize bs+X*2^bc=bs3 at *
    generalize V+X*2^t=V3 at *
    have wi:∀(w4:World) (ol4:List Nat) (bs4 bc4:Nat) (F4:Cells) (x1 x2 x3:Int),WS w4 ob cap F4 ol4 bs4 bc4 V3 (t+m)→1≤bc4→bc4≤16→Fm w' w4 [ob]→x1=(bs4:Int)→x2=(bc4:Int)→x3=(ol4.length:Int) →
      WI T L ns w0 ob cap (i+1) (decide ((X:Int)=1),((i+1:Nat):Int),x1,x2,((r-a:Nat):Int),((2^(r-a).log2:Nat):Int),(((r-a).log2+1:Nat):Int),x3) w4:=by
     rintro w4 ol4 bs4 bc4 F4 _ _ _ hW4 h1 h2 Fr4 rfl rfl rfl
     refine ⟨_,bs4,bc4,r-a,(r-a).log2,V3,t+m,B',ol4,F4,rfl,?_,hW4,h1,h2,by omega,hr'2,rfl,?_,hb1,hb2,?_,?_,Fr0.trans Fr4 (fun x hx => .inl hx)⟩
     ·have e:decide (n=0)=decide ((X:Int)=1):=by
       have:n=0↔(X:Int)=1:=by rw [hn01, ←hX1];omega
       exact decide_eq_decide.mpr this
      rw [←e];exact hHB
     ·by_cases h1:v=1
      ·have h2:(X:Int)=1:=by have:=hX1.mpr h1;omega
       have e:decide ((X:Int)=1)=true:=decide_eq_true h2
       simp only [if_pos h1] at hR2
       simp only [e,if_true]
       exact hR2
      ·have h2:¬(X:Int)=1:=by intro h;exact h1 (hX1.mp (by omega))
       have e:decide ((X:Int)=1)=false:=decide_eq_false h2
       simp only [if_neg h1] at hR2
       simp only [e,Bool.false_eq_true,if_false]
       exact hR2
     ·intro h
      have h2:v=1:=hX1.mp (by have:=of_decide_eq_true h;omega)
      refine ⟨hlim2.1 h2,?_⟩
      rw [if_neg (by omega)] at ha
      omega
     ·intro h
      have h2:v≠1:=by intro e;have:=hX1.mpr e;have:=of_decide_eq_false h;omega
      exact hlim2.2 h2
    refine cnd_d ?_ ?_
    ·intro hc
     refine hW2.flush hbs3 (by rw [hmh];exact room hT6 hL12 hW2.ev (t:=t+m) (by omega) (by omega)) hcap (by omega) (by omega) ?_
     intro w4 F4 hW4 Fr4
     refine ⟨by decide,?_⟩
     refine hA _ _ (wi w4 _ _ _ F4 _ _ _ hW4 (by omega) (by omega) Fr4 ?_ ?_ ?_)
     ·exact shrI_nat .u32 bs3 16 (by simp only [IntKind.bits];omega)
     ·rw [wU64 (by omega) (by omega)];omega
     ·rw [wU64 (by omega) (by omega),List.length_append,leB_len];omega
    ·intro hc
     exact hA _ _ (wi w' _ _ _ F _ _ _ hW2 (by omega) (by omega) (Fm.refl _ _) rfl rfl rfl)
   ·refine ⟨fun x w'=>w'=w∧∃k':Nat,x=(((2^k':Nat):Int),((k'+1:Nat):Int))∧r-a<2^(k'+1)∧k'≤k,fun x _=>x.2.toNat,⟨rfl,k,rfl,by rw [Nat.pow_succ];omega,Nat.le_refl _⟩,?_⟩
    rintro x w' ⟨rfl,k',rfl,hk',hkk⟩
    have hpw:2^k'≤2^k:=Nat.pow_le_pow_right (by omega) hkk
    unfold q112_L6
    simp only
    refine cnd_d ?_ ?_
    ·intro hc
     have h0:k'≠0:=by intro e;subst e;omega
     have esh:shrI .i16 ((2^k':Nat):Int) 1=((2^(k'-1):Nat):Int):=by
      have h1:shrI .i16 ((2^k':Nat):Int) 1=((2^k'/2^1:Nat):Int):=shrI_nat .i16 _ 1 (by simp only [IntKind.bits];omega)
      rw [h1,Nat.pow_div (by omega) (by omega)]
     refine ⟨by decide,?_⟩
     rw [esh]
     refine ⟨⟨rfl,k'-1,?_,?_,by omega⟩,?_⟩
     ·rw [wU64 (by omega) (by omega),show ((k'+1:Nat):Int)-1=((k'-1+1:Nat):Int) by omega]
     ·rw [show k'-1+1=k' by omega];omega
     ·rw [wU64 (by omega) (by omega)];omega
    ·intro hc
     have:(r-a).log2=k':=log2_of (by omega) hk'
     rw [this]
     exact ⟨rfl,rfl⟩
  refine joinP_id ?_
  rw [ethr]
  refine cnd_d ?_ ?_
  ·intro hc
   rw [wU64 (x:=(bc:Int)+((k+1:Nat):Int)) (by omega) (by omega),wU64 (by omega) (by omega),show (bc:Int)+((k+1:Nat):Int)-1=((bc+k:Nat):Int) by omega]
   exact last k (by rw [hbz,if_pos (by omega)])
  ·intro hc
   rw [wU64 (x:=(bc:Int)+((k+1:Nat):Int)) (by omega) (by omega),show (bc:Int)+((k+1:Nat):Int)=((bc+(k+1):Nat):Int) by omega]
   exact last (k+1) (by rw [hbz,if_neg (by omega)])
 have mid:q112_J10 K1 ⟨some ⟨ob,0,none⟩,mh,cap⟩ (x0,x1,x2,x3,(r:Int),((2^k:Nat):Int),((k+1:Nat):Int),x7) A14 ((i:Int),(bs:Int),(bc:Int),(ol.length:Int)) n ((r-a:Nat):Int) w:=by
  unfold q112_J10
  simp only
  rw [ethr,ev]
  refine joinP_id (cnd_d ?_ ?_)
  ·intro hc
   rw [wI16 (x:=(v:Int)+((lwZ r:Nat):Int)) (by omega) (by omega),show (v:Int)+((lwZ r:Nat):Int)=((v+lwZ r:Nat):Int) by omega]
   exact fin _ (by rw [hX,if_pos (by omega)])
  ·intro hc
   exact fin _ (by rw [hX,if_neg (by omega)])
 refine joinP_id (cnd_d ?_ ?_)
 ·intro hc
  rw [wI16 (by omega) (by omega),show (r:Int)+n=((r-a:Nat):Int) by split at ha<;>omega]
  exact mid
 ·intro hc
  rw [wI16 (by omega) (by omega),show (r:Int)-n=((r-a:Nat):Int) by split at ha<;>omega]
  exact mid
end
section
variable {T L:Nat} {w:World} {b ob cap mh:Nat} {S:FS} {ns:List Int}
set_option maxHeartbeats 1600000 in
theorem wc_all {K1:Value→PT} {l0:Nat} {F:Cells} (H:NS S ns T L) (hL12:L≤12) (hlast:ns.getD (L-1) 0≠0) (hout:S.out=⟨some ⟨ob,0,none⟩,l0,cap⟩) (HB:Blk w b S.at) (HO:Blk w ob F) (hS:Som cap F) (dbo:b≠ob) (hmh:mh=(L*T+6)/8+3) (hcap:mh≤cap)
  (hk:∀w' o Hd,(∃t,HBt T ns L false t∧Hd.length=(t+7)/8)→By Hd→(∀rest,By rest→fseRead (Hd++rest)=some (ns,T,rest))→Hd.length≤20→o=⟨some ⟨ob,0,none⟩,Hd.length,cap⟩→Vec 1 w' o (bytes .u8 Hd)→Blk w' b ({ S with out:=o } : FS).at→Fm w w' [b,ob]→K1 .nilIface w') :
  q112_J14 ⟨b,0,none⟩ K1 ((T:Nat):Int) ((L:Nat):Int) () w:=by
 have hlen:=H.len
 have hl2:=H.l2
 have hTp:=H.log.pow
 have hT6:T=5∨T=6:=H.log
 have hTL:T*L≤6*12:=Nat.mul_le_mul (by omega) hL12
 have hsum:=H.sum
 have hmh20:mh≤12:=by rw [hmh];rcases hT6 with rfl|rfl<;>omega
 have emh:IntKind.i64.wrap (shrI .i64 (IntKind.i64.wrap (IntKind.i64.wrap (IntKind.i64.wrap (IntKind.i64.wrap ((L:Nat):Int)*IntKind.i64.wrap ((T:Nat):Int))+4)+2)) 3+3)=((mh:Nat):Int):=by
  have hLT:L*T≤12*6:=Nat.mul_le_mul hL12 (by omega)
  rw [wI64 (x:=((L:Nat):Int)) (by omega) (by omega),wI64 (x:=((T:Nat):Int)) (by omega) (by omega), ←Int.natCast_mul]
  generalize L*T=q at *
  rw [wI64 (x:=(q:Int)) (by omega) (by omega),wI64 (x:=(q:Int)+4) (by omega) (by omega),wI64 (x:=(q:Int)+4+2) (by omega) (by omega)]
  have h1:shrI .i64 (((q+6:Nat):Nat):Int) 3=(((q+6)/2^3:Nat):Int):=shrI_nat .i64 (q+6) 3 (by simp only [IntKind.bits];omega)
  rw [show (q:Int)+4+2=((q+6:Nat):Int) by omega,h1,wI64 (by omega) (by omega)];omega
 unfold q112_J14
 simp only [add_mk,Nat.zero_add]
 refine ld_b (t := .S) (x:=⟨some ⟨ob,0,none⟩,l0,cap⟩) HB (by show some S.out.val=_;rw [hout];rfl) ?_
 rw [emh]
 refine slc_hi (m:=mh) rfl hcap ?_
 have hlog:(2^T+1).log2=T:=log2_of (by omega) (by rw [Nat.pow_succ];omega)
 refine ⟨fun x w'=>∃(t:Nat) (H0:List Nat) (F':Cells) (bs bc V:Nat),x=((L:Int),(bs:Int),(bc:Int),(H0.length:Int))∧HBt T ns L false t∧WS w' ob cap F' H0 bs bc V t∧1≤bc∧bc≤16∧RD T V t (fun l=>readZ l ⟨t,true,ns⟩ 0)∧t≤5+T*L+2*(L/2)∧Fm w w' [ob],?_,?_⟩
 ·rintro x w2 ⟨t,ol,F2,bs,bc,V,rfl,hHB,hW,hbc1,hbc,hRD,hlim,Fr⟩
  have HB2:=HB.fr Fr (nm1 dbo)
  have htot:=hW.tot
  have hroom:=room hT6 hL12 hW.ev (t:=t) (by omega) hlim
  rw [←hmh] at hroom
  have hlt:=hW.lt
  have hp:2^bc≤2^16:=Nat.pow_le_pow_right (by omega) hbc
  unfold q112_J13
  simp only [add_mk,Nat.zero_add]
  refine two_b hW.blk hW.som (by omega) hroom hcap (by omega) ?_
  intro w3 B3 F3
  refine ⟨by decide,?_⟩
  have HB3:=HB2.fr F3 (nm1 dbo)
  refine ld_b (t := .I .u16) (x:=((L:Nat):Int)) HB3 H.symAt ?_
  refine cnd_d (fun h=>absurd h (by omega)) (fun _ => ?_)
  have eq:IntKind.u64.wrap ((ol.length:Int)+quoI .u64 (IntKind.u64.wrap ((bc:Int)+7)) 8)=(((t+7)/8:Nat):Int):=by
   have h1:quoI .u64 ((bc+7:Nat):Int) 8=(((bc+7)/8:Nat):Int):=quoI_nat .u64 (bc+7) 8 (by simp only [IntKind.bits];omega)
   rw [wU64 (x:=(bc:Int)+7) (by omega) (by omega),show (bc:Int)+7=((bc+7:Nat):Int) by omega,h1,wU64 (by omega) (by omega)];omega
  rw [eq]
  refine slc_hi (m:=(t+7)/8) rfl (by simp only;omega) ?_
  refine st_u HB3 rfl rfl ?_
  intro w4 HB4 F4
  have B4:=B3.fr F4 (nm1 dbo.symm)
  have hd:∃Hd:List Nat,By Hd∧leN Hd=V∧Hd.length=(t+7)/8∧∀j (h:j<Hd.length),(updC (updC F2 ol.length (.int .u8 ((bs%256:Nat):Int))) (ol.length+1) (.int .u8 ((bs/256%256:Nat):Int))) j=some (.int .u8 (Hd[j]:Nat)):=by
   have hval:=hW.val
   by_cases h8:bc≤8
   ·have hp8:2^bc≤2^8:=Nat.pow_le_pow_right (by omega) h8
    refine ⟨ol ++ [bs],hW.byt.app (by intro x hx;simp at hx;omega),?_,by rw [List.length_append,List.length_singleton];omega,?_⟩
    ·rw [leN_append, ←hval,show (256:Nat)^ol.length=2^(8*ol.length) by rw [Nat.pow_mul]]
     simp [leN]
    ·intro j hj
     rw [List.length_append,List.length_singleton] at hj
     unfold updC
     rw [if_neg (by omega)]
     by_cases e2:j=ol.length
     ·subst e2
      rw [if_pos rfl,List.getElem_append_right (by omega)]
      simp only [Nat.sub_self,List.getElem_cons_zero]
      rw [Nat.mod_eq_of_lt (by omega)]
     ·rw [if_neg e2,List.getElem_append_left (by omega)]
      exact hW.cel j (by omega)
   ·refine ⟨ol++leB bs 2,hW.byt.app (leB_by _ _),?_,by rw [List.length_append,leB_len];omega,?_⟩
    ·have:=content_out ol bs 2 V hval
     rw [show bs/2^(8*2)=0 from Nat.div_eq_of_lt (by omega),Nat.mul_zero,Nat.add_zero] at this
     exact this
    ·intro j hj
     rw [List.length_append,leB_len] at hj
     unfold updC
     by_cases e1:j=ol.length+1
     ·subst e1
      rw [if_pos rfl,List.getElem_append_right (by omega)]
      simp [leB2]
     ·rw [if_neg e1]
      by_cases e2:j=ol.length
      ·subst e2
       rw [if_pos rfl,List.getElem_append_right (by omega)]
       simp [leB2]
      ·rw [if_neg e2,List.getElem_append_left (by omega)]
       exact hW.cel j (by omega)
  obtain ⟨Hd,d1,d2,d3,d4⟩:=hd
  rw [←d3] at HB4
  refine hk w4 ⟨some ⟨ob,0,none⟩,Hd.length,cap⟩ Hd ⟨t,hHB,d3⟩ d1 (fun rest hr=>hRD.done hT6 d1 hr d2 d3 (by omega)) (by omega) rfl ⟨?_,?_,(fun h=>by cases h),?_⟩ (HB4.congr (FS.setT (s' := { S with out:=⟨some ⟨ob,0,none⟩,Hd.length,cap⟩ }) 14 rfl rfl rfl (by decide))) ?_
  ·simp [bytes]
  ·simp only;omega
  ·intro a ha
   injection ha with ha
   subst ha
   refine ⟨rfl,rfl,_,B4,?_,?_⟩
   ·intro j hj
    have hj2:j<Hd.length:=by simpa [bytes] using hj
    rw [d4 j hj2]
    simp [bytes,hj2]
   ·intro j hj
    exact hW.som.upd.upd j (by simpa using hj)
  ·exact ((Fr.mono (S' := [b,ob]) (by intro v hv;simp at hv;simp [hv])).trans F3 (by intro v hv;simp at hv;simp [hv])).trans F4 (by intro v hv;simp at hv;simp [hv])
 ·refine ⟨fun x w'=>∃i,WI T L ns w ob cap i x w',fun x _=>L+1-x.2.1.toNat,⟨0,false,T-5,4,2^T+1,T,T-5,4,0,[],F,?_,.start,⟨HO,hS,(fun x hx=>by cases hx),(fun j h=>absurd h (Nat.not_lt_zero _)),by simp [leN],by simp,by show T-5<16;omega,rfl⟩,by omega,by omega,Nat.zero_le _,rfl,hlog,?_,by omega,by omega,(fun h=>by cases h),(fun _=>by omega),Fm.refl _ _⟩,?_⟩
  ·rw [sh64 H.log]
   rw [wU8 (x:=((T:Nat):Int)-5) (by omega) (by omega),wU32 (x:=((T:Nat):Int)-5) (by omega) (by omega),wI64 (x:=((2^T:Nat):Int)+1) (by omega) (by omega),wI16 (x:=((2^T:Nat):Int)+1) (by omega) (by omega),wI16 (x:=((2^T:Nat):Int)) (by omega) (by omega),wU8 (x:=((T:Nat):Int)+1) (by omega) (by omega),wU64 (by omega) (by omega)]
   rw [show ((T:Nat):Int)-5=((T-5:Nat):Int) by omega]
   rfl
  ·exact RD.start hT6
  rintro x w2 ⟨i,p0,bs,bc,r,k,V,t,B,ol,F2,rfl,hHB,hW,hbc1,hbc,hiL,hr,hk2,hRD,hB,hB4,hp1,hp2,Fr⟩
  have HB2:=HB.fr Fr (nm1 dbo)
  have hcl:=cumZ_le ns i
  unfold q112_L12
  simp only
  refine cnd_d ?_ ?_
  ·intro hc
   have hr1:1<r:=by omega
   have hiL2:i<L:=by
    by_cases h:i<L
    ·exact h
    ·have:cumZ ns i=2^T:=by rw [show i=ns.length by omega,cumZ_all,hsum]
     omega
   have share:∀(w3:World) (j bs3 bc3 V3 t3:Nat) (ol3:List Nat) (F3:Cells) (x0:Bool) (x1 x2 x3 x7:Int),HBt T ns (j+1) (decide (ns.getD j 0=0)) (t3+bZ r (ns.getD j 0+1).toNat)→i≤j→j<L→cumZ ns j=cumZ ns i→WS w3 ob cap F3 ol3 bs3 bc3 V3 t3→1≤bc3→bc3≤16→RD T V3 t3 (fun l=>readZ l ⟨t3,true,ns.take j⟩ (r-1)) →
     (t3≤4+B+T*j+2*(j/2)∨(ns.getD j 0≠0∧t3≤4+B+T*j+2*((j+1)/2)))→Fm w w3 [ob] →
     q112_J11 ⟨b,0,none⟩ K1 ⟨some ⟨ob,0,none⟩,mh,cap⟩ (x0,x1,x2,x3,(r:Int),((2^k:Nat):Int),((k+1:Nat):Int),x7) (fun s' w'=>(∃i,WI T L ns w ob cap i s' w')∧L+1-s'.2.1.toNat<L+1-(i:Int).toNat) ((j:Int),(bs3:Int),(bc3:Int),(ol3.length:Int)) w3:=by
    intro w3 j bs3 bc3 V3 t3 ol3 F3 x0 x1 x2 x3 x7 h0 h1 h2 h3 h4 h5 h6 h7 h8 h9
    refine wc_share H hL12 (HB.fr h9 (nm1 dbo)) h4 h5 h6 h2 (by rw [h3];exact hr) hr1 hk2 h7 hB hB4 h8 dbo hmh hcap h9 h0 ?_
    intro x' w' hx
    have hx2:=hx
    obtain ⟨p0',bs',bc',r',k',V',t',B',ol',F',rfl,_⟩:=hx2
    exact ⟨⟨j+1,hx⟩,by simp only [Int.toNat_natCast];omega⟩
   cases p0 with
   | false =>
    refine joinP_id ⟨(fun h=>by cases h),fun _ => ?_⟩
    exact share w2 i bs bc V t ol F2 _ _ _ _ _ (by rw [hr];exact hHB.share (by omega)) (Nat.le_refl _) hiL2 rfl hW hbc1 hbc hRD (.inl (hp2 rfl)) Fr
   | true =>
    refine joinP_id ⟨fun _ => ?_,fun h=>by cases h⟩
    refine wc_run H hL12 hlast HB2 hW hbc1 hbc hiL2 hRD hB (hp1 rfl).1 dbo hmh hcap ?_
    intro w3 j ol3 bs3 bc3 V3 t3 F3 h0 h1 h2 hz h3 h4 h5 h6 h7 h8 h9
    exact share w3 j bs3 bc3 V3 t3 ol3 F3 _ _ _ _ _ (by have:=hHB.run h1 (by omega) hz h3;rw [cumZ_zeros h1 (by omega) hz, ←hr] at this;rw [h0];exact this) h1 h2 (cumZ_zeros h1 (by omega) hz) h4 h5 h6 h7 (.inr ⟨h3,h8⟩) (Fr.trans h9 (fun x hx => .inl hx))
  ·intro hc
   have hr1:r=1:=by omega
   have hp:p0=false:=by
    cases p0 with
    | false=>rfl
    | true=>have:=(hp1 rfl).2;omega
   subst hp
   have hiL2:i=L:=by
    by_cases h:i<L
    ·have h1:=cumZ_succ (ns:=ns) (i:=L-1) (by omega)
     have h2:=cumZ_mono ns (show i≤L-1 by omega)
     have h3:absZ (ns[L-1]'(by omega))≠0:=by
      rw [getD_Z (by omega)] at hlast
      unfold absZ;have:=H.rng _ (List.getElem_mem (show L-1<ns.length by omega));split<;>omega
     have h4:=cumZ_le ns (L-1+1)
     omega
    ·omega
   subst hiL2
   subst hr1
   refine ⟨t,ol,F2,bs,bc,V,rfl,hHB,hW,hbc1,hbc,?_,?_,Fr⟩
   ·rw [show ns.take i=ns from List.take_of_length_le (by omega)] at hRD
    exact hRD
   ·have:=hp2 rfl;omega
theorem c112 {K:Value→PT} {n:Nat} (H:NS S ns T L) (hL12:L≤12) (hlast:ns.getD (L-1) 0≠0) (HB:Blk w b S.at) (hO:Own 1 w S.out) (hbo:b∉S.out.bs) (hbr:S.br.l=n) (hof:S.brOff=0) (hn:n<2^40)
  (hk:∀w' o Hd,(∃t,HBt T ns L false t∧Hd.length=(t+7)/8)→By Hd→(∀rest,By rest→fseRead (Hd++rest)=some (ns,T,rest))→Hd.length≤20→o.l=Hd.length→Vec 1 w' o (bytes .u8 Hd)→Blk w' b ({ S with out:=o } : FS).at→Fm w w' (b::S.out.bs)→(∀v∈o.bs,v∈S.out.bs∨w.heap.size≤v)→b∉o.bs→K .nilIface w') :
  callP Tryd.prog 112 #[.pointer (some ⟨b,0,none⟩)] [.c .V] K w:=by
 apply q112_ok
 unfold q112
 have hTp:=H.log.pow
 have hT6:T=5∨T=6:=H.log
 have hTL:T*L≤6*12:=Nat.mul_le_mul (by omega) hL12
 have hl2:=H.l2
 have hbl:=HB.lt
 have hmh20:(L*T+6)/8+3≤12:=by rcases hT6 with rfl|rfl<;>omega
 have emh:IntKind.i64.wrap (shrI .i64 (IntKind.i64.wrap (IntKind.i64.wrap (IntKind.i64.wrap (IntKind.i64.wrap ((L:Nat):Int)*IntKind.i64.wrap ((T:Nat):Int))+4)+2)) 3+3)=(((L*T+6)/8+3:Nat):Int):=by
  have hLT:L*T≤12*6:=Nat.mul_le_mul hL12 (by omega)
  rw [wI64 (x:=((L:Nat):Int)) (by omega) (by omega),wI64 (x:=((T:Nat):Int)) (by omega) (by omega), ←Int.natCast_mul]
  generalize L*T=q at *
  rw [wI64 (x:=(q:Int)) (by omega) (by omega),wI64 (x:=(q:Int)+4) (by omega) (by omega),wI64 (x:=(q:Int)+4+2) (by omega) (by omega)]
  have h1:shrI .i64 (((q+6:Nat):Nat):Int) 3=(((q+6)/2^3:Nat):Int):=shrI_nat .i64 (q+6) 3 (by simp only [IntKind.bits];omega)
  rw [show (q:Int)+4+2=((q+6:Nat):Int) by omega,h1,wI64 (by omega) (by omega)];omega
 generalize hmh:(L*T+6)/8+3=mh at *
 simp only [add_mk,Nat.zero_add]
 refine ld_b (t := .I .u8) (x:=((T:Nat):Int)) HB H.atlAt ⟨by omega,?_⟩
 refine ld_b (t := .I .u16) (x:=((L:Nat):Int)) HB H.symAt ⟨by decide,?_⟩
 refine joinP_id ?_
 unfold q112_X15
 simp only [add_mk,Nat.zero_add]
 rw [emh]
 refine ld_b (t := .S) (x:=S.out) HB rfl ?_
 refine cnd_d ?_ ?_
 ·intro hc
  refine ld2_b (t := .S) (u := .I .i64) (x:=S.br) (y:=((0:Nat):Int)) HB rfl (by show some (Value.int .i64 S.brOff)=_;rw [hof];rfl) ?_
  refine c93 (s:=S.br) (n:=0) (by omega) (by omega) ?_
  intro w1 F1
  rw [hbr,Nat.sub_zero]
  have HB1:=HB.fr F1 (by simp)
  have hs1:=F1.size
  refine ⟨0,n+mh,rfl,by rw [wI64 (by omega) (by omega)];omega,Nat.zero_le _,by omega,?_⟩
  have F2:Fm w1 (w1.alloc (.cells (zrep z5 (n+mh)) 5)) []:=(Fm.refl w1 []).alloc
  have B2:Blk (w1.alloc (.cells (zrep z5 (n+mh)) 5)) w1.heap.size fun i=>(zrep z5 (n+mh))[i]? := Blk.new
  have hdb:b≠w1.heap.size:=by omega
  refine st_u (HB1.fr F2 (by simp)) rfl rfl ?_
  intro w3 HB3 F3
  have B3:=B2.fr F3 (nm1 hdb.symm)
  refine wc_all (S := { S with out:=⟨some ⟨w1.heap.size,0,none⟩,0,n+mh⟩ }) (H.congr rfl rfl rfl) hL12 hlast rfl (HB3.congr (FS.setT 14 rfl rfl rfl (by decide))) B3 (fun i hi=>zrep_some z5 (n+mh) i (by simpa [z5] using hi)) hdb hmh.symm (by omega) ?_
  intro w4 o Hd h0 h1 h2 h3 h4 h5 h6 h7
  refine hk w4 o Hd h0 h1 h2 h3 (by rw [h4]) h5 h6 ?_ ?_ ?_
  ·refine (((F1.trans F2 (by simp)).mono (S':=b::S.out.bs) (by simp)).trans F3 (by intro v hv;simp at hv;simp [hv])).trans h7 ?_
   intro v hv
   simp only [List.mem_cons,List.not_mem_nil,or_false] at hv
   rcases hv with rfl|rfl
   ·exact .inl (by simp)
   ·exact .inr hs1
  ·intro v hv
   rw [h4] at hv
   simp [Sl.bs] at hv
   right;omega
  ·rw [h4];simp [Sl.bs];omega
 ·intro hc
  have ha:S.out.a.isSome:=by
   cases hh:S.out.a with
   | none=>have:=hO.2.1 hh;omega
   | some a=>rfl
  obtain ⟨ob,F,eo,HO,hF,hlc⟩:=hO.out ha rfl
  rw [Nat.mul_one] at hF
  generalize S.out.c=cap at *
  have hobs:S.out.bs = [ob]:=by rw [eo];rfl
  have hdb:b≠ob:=by intro e;apply hbo;rw [hobs,e];simp
  refine wc_all H hL12 hlast eo HB HO hF hdb hmh.symm (by omega) ?_
  intro w4 o Hd h0 h1 h2 h3 h4 h5 h6 h7
  refine hk w4 o Hd h0 h1 h2 h3 (by rw [h4]) h5 h6 (by rw [hobs];exact h7) ?_ ?_
  ·intro v hv
   rw [h4] at hv
   left;rw [hobs];exact hv
  ·rw [h4];simp [Sl.bs];exact hdb
end
end Go.Sx
