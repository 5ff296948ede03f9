/- Lemmas for the proof: W2 W3 W4 W5 W6 W7 W8 W9 W10 W11. No conditions. -/
import Derived.Test.YtlnhldlhmplphaaDoorS6A02
set_option linter.unusedVariables false
set_option linter.unusedSimpArgs false
namespace Go.Sx
open Go Go.Proofs
theorem Blk.setW {w:World} {b o:Nat} {f g:Cells} {v:Value} (h:Blk w b f) (ho:(f o).isSome) (e:updC f o v=g):Blk (w.setCell ⟨b,o,none⟩ v) b g:=e▸h.set ho
def okZ (l:List Nat) (at_ n:Nat):Bool:=decide (n=0∨at_+n≤8*l.length)
def tkZ (l:List Nat) (at_ n:Nat):Nat:=leN l/2^at_%2^n
theorem c87 {w:World} {s:Sl} {l:List Nat} {a n:Nat} {K:Int×Bool→PT} (h:Arr .u8 w s l) (hl:By l) (h1:a<1152921504606846976) (h2:n≤32)
  (hk:K ((tkZ l a n:Nat),okZ l a n) w):callP Tryd.prog 87 #[.slice s.a s.l s.c,.int .i64 a,.int .i64 n] [.c (.I .i64),.c .B] K w:=by
 apply q87_ok
 unfold q87
 refine ⟨fun x w'=>x=(((tkZ l a n:Nat):Int),okZ l a n)∧w'=w,?_,?_⟩
 ·rintro x w' ⟨rfl,rfl⟩
  exact hk
 ·refine ⟨fun x w'=>w'=w∧∃i:Nat,i≤n∧x=(((tkZ l a i:Nat):Int),okZ l a i,(i:Int)),fun x _=>n-x.2.2.toNat,⟨rfl,0,Nat.zero_le _,?_⟩,?_⟩
  ·simp [tkZ,okZ,Nat.mod_one]
  ·rintro x w' ⟨rfl,i,hi,rfl⟩
   unfold q87_L1
   refine cnd_d ?_ ?_
   ·intro hc
    have hc:i<n:=by simp only at hc;omega
    simp only
    rw [wI64 (by omega) (by omega)]
    refine joinP_id ?_
    refine c76 h hl (by omega) (by omega) ?_
    refine ⟨by omega,?_⟩
    have hb:bitZ l ((a:Int)+(i:Int))=leN l/2^(a+i)%2:=by
     unfold bitZ
     rw [if_neg (by omega),show ((a:Int)+(i:Int)).toNat=a+i by omega]
    have hlt:bitZ l ((a:Int)+(i:Int))<2:=by rw [hb];omega
    have hp:2^i<2^32:=Nat.pow_lt_pow_right (by omega) (by omega)
    have hs:shlI .i64 (bitZ l ((a:Int)+(i:Int)):Nat) (i:Nat)=((bitZ l ((a:Int)+(i:Int))*2^i:Nat):Int) :=
     shlI_nat .i64 _ _ (by simp [IntKind.bits];omega) (by
      simp only [IntKind.bits]
      have:bitZ l ((a:Int)+(i:Int))*2^i≤1*2^i:=Nat.mul_le_mul_right _ (by omega)
      omega)
    have ht:tkZ l a (i+1)=tkZ l a i+bitZ l ((a:Int)+(i:Int))*2^i:=by
     unfold tkZ
     rw [Nat.mod_pow_succ,Nat.div_div_eq_div_mul, ←Nat.pow_add,hb,Nat.mul_comm]
    have htl:tkZ l a (i+1)<2^(i+1):=Nat.mod_lt _ (Nat.two_pow_pos _)
    have hp2:2^(i+1)≤2^32:=Nat.pow_le_pow_right (by omega) (by omega)
    simp only
    have hv:IntKind.i64.wrap (((tkZ l a i:Nat):Int)+shlI .i64 (bitZ l ((a:Int)+(i:Int)):Nat) (i:Nat))=((tkZ l a (i+1):Nat):Int):=by
     rw [hs, ←Int.natCast_add, ←ht]
     exact wrap_nat .i64 _ (by simp only [IntKind.bits];omega)
    rw [hv]
    have hin:inZ l ((a:Int)+(i:Int))=decide (a+i<8*l.length):=by
     unfold inZ;congr 1;simp;omega
    have hok:∀b:Bool,b=okZ l a i→(b&&inZ l ((a:Int)+(i:Int)))=okZ l a (i+1):=by
     intro b hb;subst hb
     rw [hin];unfold okZ
     rw [←Bool.decide_and]
     congr 1;simp only [eq_iff_iff];omega
    constructor
    ·intro hb
     unfold q87_J0
     simp only
     rw [wI64 (by omega) (by omega)]
     have:=hok true hb.symm
     rw [Bool.true_and] at this
     rw [this]
     exact ⟨⟨trivial,i+1,by omega,by simp⟩,by omega⟩
    ·intro hb
     unfold q87_J0
     simp only
     rw [wI64 (by omega) (by omega)]
     have:=hok false hb.symm
     rw [Bool.false_and] at this
     rw [this]
     exact ⟨⟨trivial,i+1,by omega,by simp⟩,by omega⟩
   ·intro hc
    have hc:i=n:=by simp only at hc;omega
    subst hc
    exact ⟨rfl,rfl⟩
def hdC (b:Sl) (at_:Nat) (ok:Bool) (c:Sl):Cells:=fun i=>match i with
 | 0=>some (.slice b.a b.l b.c)
 | 1=>some (.int .i64 at_)
 | 2=>some (.bool ok)
 | 3=>some (.slice c.a c.l c.c)
 | _=>none
theorem hdC1 (b:Sl) (at_ n:Nat) (ok:Bool) (c:Sl):updC (hdC b at_ ok c) 1 (.int .i64 (n:Nat))=hdC b n ok c:=by
 funext i;rcases i with _|_|_|_|i<;>simp [updC,hdC]
theorem hdC2 (b:Sl) (at_:Nat) (ok k:Bool) (c:Sl):updC (hdC b at_ ok c) 2 (.bool k)=hdC b at_ k c:=by
 funext i;rcases i with _|_|_|_|i<;>simp [updC,hdC]
theorem hdC3 (b:Sl) (at_:Nat) (ok:Bool) (c d:Sl):updC (hdC b at_ ok c) 3 (.slice d.a d.l d.c)=hdC b at_ ok d:=by
 funext i;rcases i with _|_|_|_|i<;>simp [updC,hdC]
theorem c67 {w:World} {h at_ n:Nat} {b c:Sl} {ok:Bool} {l:List Nat} {K:Int→PT} (H:Blk w h (hdC b at_ ok c)) (hb:Arr .u8 w b l) (hl:By l) (h1:at_<1152921504606846976) (h2:n≤32)
  (hk:∀w',Blk w' h (hdC b (at_+n) (ok&&okZ l at_ n) c)→Fm w w' [h]→K (tkZ l at_ n:Nat) w'):callP Tryd.prog 67 #[.pointer (some ⟨h,0,none⟩),.int .i64 n] [.c (.I .i64)] K w:=by
 apply q67_ok
 unfold q67 drw
 refine ld_b (x:=b) H.drew rfl ?_
 rw [add_mk]
 refine ld_b (t := .I .i64) (x:=(at_:Int)) H.drew rfl ?_
 refine c87 (hb.fr (Fm.refl w []).drew (by simp)) hl h1 h2 ?_
 refine joinP_id ?_
 simp only [add_mk]
 refine ld_b (t := .B) (x:=ok) H.drew rfl ?_
 have fin:∀(k:Bool),k=(ok&&okZ l at_ n)→st ⟨h,0+2,none⟩ (.bool k) (q67_J0 ⟨h,0,none⟩ n K ((tkZ l at_ n:Nat),okZ l at_ n) ()) w.drew:=by
  intro k hkk
  refine st_b H.drew rfl rfl ?_
  have H2:=H.drew.setW (o:=0+2) (v := .bool k) rfl (hdC2 b at_ ok k c)
  unfold q67_J0
  simp only [add_mk]
  refine ld_b (t := .I .i64) (x:=(at_:Int)) H2 rfl ?_
  rw [wI64 (by omega) (by omega)]
  refine st_b H2 rfl rfl ?_
  have H3:=H2.setW (o:=0+1) (v := .int .i64 ((at_+n:Nat):Int)) rfl (hdC1 b at_ (at_+n) k c)
  rw [←Int.natCast_add]
  refine hk _ (hkk▸H3) ?_
  exact (((Fm.refl w [h]).drew).set (.inl (by simp))).set (.inl (by simp))
 constructor
 ·intro e
  refine fin _ ?_
  rw [e];rfl
 ·intro e
  refine fin _ ?_
  rw [e];rfl
def valZ (l:List Nat) (at_ most:Nat):Nat×Nat×Bool :=
 let bits:=most.log2+1
 let low:=2^bits-1-most
 let v:=tkZ l at_ (bits-1)
 if v<low then (v,at_+(bits-1),okZ l at_ (bits-1)) else
  let v2:=v+tkZ l (at_+(bits-1)) 1*2^(bits-1)
  (if 2^(bits-1)≤v2 then v2-low else v2,at_+bits,okZ l at_ (bits-1)&&okZ l (at_+(bits-1)) 1)
theorem c68 {w:World} {h at_ most:Nat} {b c:Sl} {ok:Bool} {l:List Nat} {K:Int→PT} (H:Blk w h (hdC b at_ ok c)) (hb:Arr .u8 w b l) (hh:∀a,b.a=some a→l ≠ []→a.block≠h) (hl:By l) (h1:at_<1152921504606846976-64) (h0:0<most) (h2:most<2^20)
  (hk:∀w',Blk w' h (hdC b (valZ l at_ most).2.1 (ok&&(valZ l at_ most).2.2) c)→Fm w w' [h]→K ((valZ l at_ most).1:Nat) w'):callP Tryd.prog 68 #[.pointer (some ⟨h,0,none⟩),.int .i64 most] [.c (.I .i64)] K w:=by
 apply q68_ok
 unfold q68
 refine c44 h0 (by omega) ?_
 have hlog:most.log2<20:=(Nat.log2_lt (by omega)).mpr h2
 have hp1:2^most.log2≤most:=Nat.log2_self_le (by omega)
 have hp2:most<2^(most.log2+1):=Nat.lt_log2_self
 generalize hg:most.log2=g at *
 have hgp:2^(g+1)≤2^20:=Nat.pow_le_pow_right (by omega) (by omega)
 have hpp:2^(g+1)=2*2^g:=Nat.pow_succ'
 have e1:IntKind.i64.wrap ((g:Int)+1)=((g+1:Nat):Int):=by rw [wI64 (by omega) (by omega)];simp
 have e2:IntKind.i64.wrap (((g+1:Nat):Int)-1)=(g:Nat):=by rw [wI64 (by omega) (by omega)];simp
 have e3:shlI .i64 1 ((g+1:Nat):Int)=((2^(g+1):Nat):Int):=by
  have:=shlI_nat .i64 1 (g+1) (by simp [IntKind.bits];omega) (by simp only [IntKind.bits];omega)
  rw [Nat.one_mul] at this;exact this
 have e4:shlI .i64 1 ((g:Nat):Int)=((2^g:Nat):Int):=by
  have:=shlI_nat .i64 1 g (by simp [IntKind.bits];omega) (by simp only [IntKind.bits];omega)
  rw [Nat.one_mul] at this;exact this
 have e5:IntKind.i64.wrap (((2^(g+1):Nat):Int)-1)=((2^(g+1)-1:Nat):Int):=by rw [wI64 (by omega) (by omega)];omega
 have e6:IntKind.i64.wrap (((2^(g+1)-1:Nat):Int)-(most:Int))=((2^(g+1)-1-most:Nat):Int):=by rw [wI64 (by omega) (by omega)];omega
 unfold valZ at hk
 rw [hg] at hk
 simp only [Nat.add_sub_cancel] at hk
 simp only [e1,e2,e3,e5,e6]
 refine ⟨by omega,c67 H hb hl (by omega) (by omega) ?_⟩
 intro w1 H1 F1
 have hv:tkZ l at_ g<2^g:=Nat.mod_lt _ (Nat.two_pow_pos _)
 refine cnd_d ?_ ?_
 ·intro hc
  have hc:tkZ l at_ g<2^(g+1)-1-most:=by omega
  simp only [if_pos hc] at hk
  exact hk w1 H1 F1
 ·intro hc
  have hc:¬tkZ l at_ g<2^(g+1)-1-most:=by omega
  simp only [if_neg hc] at hk
  refine joinP_id ?_
  refine c67 (n:=1) H1 (hb.fr F1 (by intro a ha hn;simpa using hh a ha hn)) hl (by omega) (by omega) ?_
  intro w2 H2 F2
  have F:=F1.trans F2 (by intro b hb;exact .inl hb)
  have ht:tkZ l (at_+g) 1<2:=Nat.mod_lt _ (by omega)
  have fin:∀v2:Nat,v2=tkZ l at_ g+tkZ l (at_+g) 1*2^g→q68_J1 most K g v2 w2:=by
   intro v2 hv2
   unfold q68_J1
   refine joinP_id ?_
   simp only [e1,e2,e3,e4,e5,e6]
   rw [←hv2] at hk
   rw [Bool.and_assoc] at H2
   have hlt:v2<2^(g+1):=by
    rw [hv2,hpp]
    have:tkZ l (at_+g) 1*2^g≤1*2^g:=Nat.mul_le_mul_right _ (by omega)
    omega
   refine ⟨by omega,cnd_d ?_ ?_⟩
   ·intro hc
    have hc:2^g≤v2:=by omega
    simp only [if_pos hc] at hk
    unfold q68_J0
    rw [wI64 (by omega) (by omega)]
    rw [←Int.ofNat_sub (by omega)]
    exact hk w2 H2 F
   ·intro hc
    have hc:¬2^g≤v2:=by omega
    simp only [if_neg hc] at hk
    exact hk w2 H2 F
  refine cnd_d ?_ ?_
  ·intro hc
   simp only [e1,e2,e4]
   refine ⟨by omega,?_⟩
   have ht1:tkZ l (at_+g) 1=1:=by omega
   have:=fin (tkZ l at_ g+2^g) (by rw [ht1,Nat.one_mul])
   rw [wI64 (by omega) (by omega), ←Int.natCast_add]
   exact this
  ·intro hc
   have ht1:tkZ l (at_+g) 1=0:=by omega
   exact fin _ (by rw [ht1,Nat.zero_mul,Nat.add_zero])
def ints (l:List Int):List Value:=l.map (Value.int .i64)
theorem ints_len (l:List Int):(ints l).length=l.length:=by simp [ints]
theorem ints_app (l m:List Int):ints (l++m)=ints l++ints m:=by simp [ints]
structure HS where
 pos:Nat
 ok:Bool
 cs:List Int
structure HD (w0 w:World) (h:Nat) (b:Sl) (s:HS):Prop where
 new:w0.heap.size≤h
 fr:Fm w0 w []
 body:∃c,Blk w h (hdC b s.pos s.ok c)∧Vec 1 w c (ints s.cs)∧∀x∈c.bs,x≠h∧w0.heap.size≤x
theorem HD.arr {w0 w:World} {h:Nat} {b:Sl} {s:HS} {l:List Nat} (H:HD w0 w h b s) (hb:Arr .u8 w0 b l):Arr .u8 w b l:=hb.fr H.fr (by simp)
theorem Arr.old {k:IntKind} {w:World} {s:Sl} {l:List Nat} (h:Arr k w s l) (hl:l ≠ []):∀a,s.a=some a→a.block<w.heap.size:=by
 intro a ha
 have h1:=h.get a ha 0 (by cases l;exact absurd rfl hl;simp)
 have h2:=World.block_lt_of_cell? _ _ h1
 unfold Addr.add at h2
 simpa using h2
theorem c67h {w0 w:World} {h n:Nat} {b:Sl} {s:HS} {l:List Nat} {K:Int→PT} (H:HD w0 w h b s) (hb:Arr .u8 w0 b l) (hl:By l) (h1:s.pos<1152921504606846976) (h2:n≤32)
  (hk:∀w',HD w0 w' h b ⟨s.pos+n,s.ok&&okZ l s.pos n,s.cs⟩→K (tkZ l s.pos n:Nat) w'):callP Tryd.prog 67 #[.pointer (some ⟨h,0,none⟩),.int .i64 n] [.c (.I .i64)] K w:=by
 obtain ⟨c,hc1,hc2,hc3⟩:=H.body
 refine c67 hc1 (H.arr hb) hl h1 h2 ?_
 intro w' h3 h4
 refine hk w' ⟨H.new,H.fr.trans h4 (by intro x hx;right;simp at hx;subst hx;exact H.new),c,h3,hc2.fr h4 ?_,hc3⟩
 intro x hx
 simp [(hc3 x hx).1]
theorem c68h {w0 w:World} {h most:Nat} {b:Sl} {s:HS} {l:List Nat} {K:Int→PT} (H:HD w0 w h b s) (hb:Arr .u8 w0 b l) (hl:By l) (h1:s.pos<1152921504606846976-64) (h0:0<most) (h2:most<2^20)
  (hk:∀w',HD w0 w' h b ⟨(valZ l s.pos most).2.1,s.ok&&(valZ l s.pos most).2.2,s.cs⟩→K ((valZ l s.pos most).1:Nat) w'):callP Tryd.prog 68 #[.pointer (some ⟨h,0,none⟩),.int .i64 most] [.c (.I .i64)] K w:=by
 obtain ⟨c,hc1,hc2,hc3⟩:=H.body
 refine c68 hc1 (H.arr hb) ?_ hl h1 h0 h2 ?_
 ·intro a ha hne
  have:=hb.old hne a ha
  have:=H.new
  omega
 ·intro w' h3 h4
  refine hk w' ⟨H.new,H.fr.trans h4 (by intro x hx;right;simp at hx;subst hx;exact H.new),c,h3,hc2.fr h4 ?_,hc3⟩
  intro x hx
  simp [(hc3 x hx).1]
theorem mem_bs {s:Sl} {a:Addr} (h:s.a=some a):a.block∈s.bs:=by unfold Sl.bs;rw [h];simp
theorem HD.push {w0 w:World} {h:Nat} {b:Sl} {s:HS} {κ:PT} {x:Int} {T:TypeId} (H:HD w0 w h b s) (hn:s.cs.length<2^40)
  (hk:∀w',HD w0 w' h b ⟨s.pos,s.ok,s.cs ++ [x]⟩→κ w') :
  ld .S ⟨h,0+3,none⟩ (fun (s9:Sl)=>nw [(.int .i64 x)] T fun (p10:Addr)=>app z3 3 8 s9 ⟨(some p10),1,1⟩ fun (s11:Sl)=>st ⟨h,0+3,none⟩ (.slice s11.a s11.l s11.c)<|κ) w:=by
 obtain ⟨c,hc1,hc2,hc3⟩:=H.body
 refine ld_b (x:=c) hc1 rfl ?_
 have hlen:=hc2.len
 rw [ints_len,Nat.mul_one] at hlen
 refine app_1 hc2 rfl (by omega) ?_
 intro c' w' h1 h2 h3
 have hcb:h∉c.bs:=fun e=>(hc3 h e).1 rfl
 have hB:=hc1.fr h2 hcb
 refine st_b hB rfl rfl ?_
 have hB2:=hB.setW (o:=0+3) (v := .slice c'.a c'.l c'.c) rfl (hdC3 b s.pos s.ok c c')
 have hlt:=hc1.lt
 have hc':∀x∈c'.bs,x≠h∧w0.heap.size≤x:=by
  intro x hx
  rcases h3 x hx with h4|h4
  ·exact hc3 x h4
  ·have:=H.fr.size
   exact ⟨by omega,by omega⟩
 have hF:Fm w0 w' []:=H.fr.trans h2 (by intro x hx;right;exact (hc3 x hx).2)
 refine hk _ ⟨H.new,hF.set (.inr H.new),c',hB2,?_,hc'⟩
 rw [ints_app]
 refine h1.fr ((Fm.refl w' [h]).set (.inl (by simp))) ?_
 intro x hx
 simp [(hc' x hx).1]
def zerosZ (l:List Nat) (s:HS):HS :=
 if s.ok then
  if hz:tkZ l s.pos 2<3∨256<s.cs.length+tkZ l s.pos 2 then ⟨s.pos+2,s.ok&&okZ l s.pos 2,s.cs++List.replicate (tkZ l s.pos 2) 0⟩
  else zerosZ l ⟨s.pos+2,s.ok&&okZ l s.pos 2,s.cs++List.replicate (tkZ l s.pos 2) 0⟩
 else s
termination_by 260-s.cs.length
decreasing_by
 simp only [List.length_append,List.length_replicate]
 omega
def hdLen (w:World) (h:Nat):Nat:=match w.cell? ⟨h,3,none⟩ with
 | some (.slice _ l _)=>l
 | _=>0
theorem HD.hdLen {w0 w:World} {h:Nat} {b:Sl} {s:HS} (H:HD w0 w h b s):hdLen w h=s.cs.length:=by
 obtain ⟨c,hc1,hc2,hc3⟩:=H.body
 have hlen:=hc2.len
 rw [ints_len,Nat.mul_one] at hlen
 unfold Go.Sx.hdLen
 rw [hc1.cell 3]
 exact hlen.symm
theorem HD.ldOk {w0 w:World} {h:Nat} {b:Sl} {s:HS} {κ:Bool→PT} (H:HD w0 w h b s) (hk:κ s.ok w):ld .B ⟨h,0+2,none⟩ κ w:=by
 obtain ⟨c,hc1,hc2,hc3⟩:=H.body
 exact ld_b (t := .B) (x:=s.ok) hc1 rfl hk
theorem HD.ldC {w0 w:World} {h:Nat} {b:Sl} {s:HS} {κ:Sl→PT} (H:HD w0 w h b s) (hk:∀c,c.l=s.cs.length→Vec 1 w c (ints s.cs)→(∀x∈c.bs,x≠h∧w0.heap.size≤x)→κ c w):ld .S ⟨h,0+3,none⟩ κ w:=by
 obtain ⟨c,hc1,hc2,hc3⟩:=H.body
 have hlen:=hc2.len
 rw [ints_len,Nat.mul_one] at hlen
 exact ld_b (x:=c) hc1 rfl (hk c hlen.symm hc2 hc3)
theorem c69 {w0 w:World} {h:Nat} {b:Sl} {s:HS} {l:List Nat} {K:Unit→PT} (H:HD w0 w h b s) (hb:Arr .u8 w0 b l) (hl:By l) (h1:s.pos<2^50) (h2:s.cs.length≤300)
  (hk:∀w',HD w0 w' h b (zerosZ l s)→(zerosZ l s).pos≤s.pos+2*((zerosZ l s).cs.length-s.cs.length)+2→s.cs.length≤(zerosZ l s).cs.length→(zerosZ l s).cs.length≤303→K () w'):callP Tryd.prog 69 #[.pointer (some ⟨h,0,none⟩)] [] K w:=by
 apply q69_ok
 unfold q69
 refine ⟨fun _ w'=>∃s',HD w0 w' h b s'∧zerosZ l s'=zerosZ l s∧s'.pos≤s.pos+2*(s'.cs.length-s.cs.length)∧s.cs.length≤s'.cs.length∧s'.cs.length≤300,
  fun _ w'=>301-hdLen w' h,⟨s,H,rfl,by omega,Nat.le_refl _,h2⟩,?_⟩
 rintro _ w' ⟨s',H',he,hp,hc,hc3⟩
 unfold q69_L2
 simp only [add_mk]
 refine H'.ldOk ⟨?_,?_⟩
 ·intro hok
  refine c67h (n:=2) H' hb hl (by omega) (by omega) ?_
  intro w1 H1
  have hn:tkZ l s'.pos 2<4:=Nat.mod_lt _ (by omega)
  have hz:zerosZ l s'=if tkZ l s'.pos 2<3∨256<s'.cs.length+tkZ l s'.pos 2 then ⟨s'.pos+2,s'.ok&&okZ l s'.pos 2,s'.cs++List.replicate (tkZ l s'.pos 2) 0⟩
    else zerosZ l ⟨s'.pos+2,s'.ok&&okZ l s'.pos 2,s'.cs++List.replicate (tkZ l s'.pos 2) 0⟩:=by
   rw [zerosZ,if_pos hok]
   split<;>simp_all
  generalize tkZ l s'.pos 2=n at *
  refine ⟨fun _ w2=>HD w0 w2 h b ⟨s'.pos+2,s'.ok&&okZ l s'.pos 2,s'.cs++List.replicate n 0⟩,?_,?_⟩
  ·intro _ w2 H2
   have hlen2:(s'.cs++List.replicate n 0).length=s'.cs.length+n:=by simp
   unfold q69_J1
   simp only [add_mk]
   refine cnd_d ?_ ?_
   ·intro hc
    have hc:n<3:=by omega
    rw [if_pos (.inl hc)] at hz
    rw [←he,hz] at hk
    simp only [hlen2] at hk
    exact hk w2 H2 (by omega) (by omega) (by omega)
   ·intro hc
    refine H2.ldC ?_
    intro c hcl _ _
    simp only [hlen2] at hcl
    refine cnd_d ?_ ?_
    ·intro hc5
     rw [if_pos (.inr (by omega))] at hz
     rw [←he,hz] at hk
     simp only [hlen2] at hk
     exact hk w2 H2 (by omega) (by omega) (by omega)
    ·intro hc5
     rw [if_neg (by omega)] at hz
     refine ⟨⟨_,H2,?_,?_,?_,?_⟩,?_⟩
     ·rw [←hz,he]
     ·simp only [hlen2];omega
     ·simp only [hlen2];omega
     ·simp only [hlen2];omega
     ·rw [H2.hdLen,H'.hdLen];simp only [hlen2];omega
  ·refine ⟨fun x w2=>∃i:Nat,x=(i:Int)∧i≤n∧HD w0 w2 h b ⟨s'.pos+2,s'.ok&&okZ l s'.pos 2,s'.cs++List.replicate i 0⟩,fun x _=>n-x.toNat,⟨0,rfl,Nat.zero_le _,by simpa using H1⟩,?_⟩
   rintro x w2 ⟨i,rfl,hi,H2⟩
   unfold q69_L0
   simp only [add_mk]
   refine cnd_d ?_ ?_
   ·intro hc
    refine H2.push (x:=0) (by simp;omega) ?_
    intro w3 H3
    rw [wI64 (by omega) (by omega)]
    refine ⟨⟨i+1,by simp,by omega,?_⟩,by omega⟩
    simp only at H3
    rw [List.append_assoc, ←List.replicate_succ'] at H3
    exact H3
   ·intro hc
    have:i=n:=by omega
    subst this
    exact H2
 ·intro hok
  have hz:zerosZ l s'=s':=by rw [zerosZ,if_neg (by simp [hok])]
  rw [←he,hz] at hk
  exact hk w' H' (by omega) hc (by omega)
theorem zerosZ_len (l:List Nat) (s:HS):s.cs.length≤(zerosZ l s).cs.length:=by
 fun_induction zerosZ l s with
 | case1 s h1 h2=>simp
 | case2 s h1 h2 ih=>simp at ih;omega
 | case3 s h1=>exact Nat.le_refl _
theorem okZ_le {l:List Nat} {a n:Nat} (h:okZ l a n=true) (ha:a≤8*l.length):a+n≤8*l.length:=by
 unfold okZ at h
 rcases of_decide_eq_true h with h|h<;>omega
def Pin (l:List Nat) (s:HS):Prop:=s.ok=true→s.pos≤8*l.length
theorem zerosZ_pin (l:List Nat) (s:HS) (h:Pin l s):Pin l (zerosZ l s):=by
 fun_induction zerosZ l s with
 | case1 s h1 h2 =>
  intro hk
  simp only [Bool.and_eq_true] at hk
  exact okZ_le hk.2 (h hk.1)
 | case2 s h1 h2 ih =>
  apply ih
  intro hk
  simp only [Bool.and_eq_true] at hk
  exact okZ_le hk.2 (h hk.1)
 | case3 s h1=>exact h
theorem valZ_pin {l:List Nat} {a m:Nat} (h:(valZ l a m).2.2=true) (ha:a≤8*l.length):(valZ l a m).2.1≤8*l.length:=by
 unfold valZ at h ⊢
 simp only at h ⊢
 split at h
 ·rename_i hc
  rw [if_pos hc]
  exact okZ_le h ha
 ·rename_i hc
  rw [if_neg hc]
  simp only [Bool.and_eq_true] at h
  have:=okZ_le h.2 (okZ_le h.1 ha)
  simp only
  omega
theorem valZ_le (l:List Nat) (a m:Nat) (h0:0<m):(valZ l a m).1≤m∧(valZ l a m).2.1≤a+m.log2+1:=by
 have hp1:2^m.log2≤m:=Nat.log2_self_le (by omega)
 have hp2:m<2^(m.log2+1):=Nat.lt_log2_self
 unfold valZ
 simp only [Nat.add_sub_cancel]
 generalize m.log2=g at *
 have hpp:2^(g+1)=2*2^g:=Nat.pow_succ'
 have hv:tkZ l a g<2^g:=Nat.mod_lt _ (Nat.two_pow_pos _)
 have ht:tkZ l (a+g) 1<2:=Nat.mod_lt _ (by omega)
 split
 ·simp only;omega
 ·simp only
  have:tkZ l (a+g) 1*2^g≤1*2^g:=Nat.mul_le_mul_right _ (by omega)
  split<;>omega
def stepZ (l:List Nat) (s:HS) (left:Nat):HS:=⟨(valZ l s.pos (left+1)).2.1,s.ok&&(valZ l s.pos (left+1)).2.2,s.cs ++ [((valZ l s.pos (left+1)).1:Int)-1]⟩
def leftZ (v left:Nat):Nat:=if v=0 then left-1 else left-(v-1)
def nextZ (l:List Nat) (s:HS) (left:Nat):HS:=if (valZ l s.pos (left+1)).1=1 then zerosZ l (stepZ l s left) else stepZ l s left
theorem nextZ_len (l:List Nat) (s:HS) (left:Nat):s.cs.length<(nextZ l s left).cs.length:=by
 unfold nextZ
 split
 ·have:=zerosZ_len l (stepZ l s left)
  simp [stepZ] at this ⊢
  omega
 ·simp [stepZ]
def readZ (l:List Nat) (s:HS) (left:Nat):Option (HS×Nat) :=
 if 0<left∧s.ok=true then
  if hc:255<s.cs.length then none else readZ l (nextZ l s left) (leftZ (valZ l s.pos (left+1)).1 left)
 else some (s,left)
termination_by 300-s.cs.length
decreasing_by
 have:=nextZ_len l s left
 omega
def fseRead (l:List Nat):Option (List Int×Nat×List Nat) :=
 if 15<tkZ l 0 4+5 then none else
  match readZ l ⟨4,okZ l 0 4,[]⟩ (2^(tkZ l 0 4+5)) with
  | none=>none
  | some (s,left)=>if s.ok=true∧left=0∧s.cs.length≤256 then some (s.cs,tkZ l 0 4+5,l.drop ((s.pos+7)/8)) else none
theorem add_add (a:Addr) (m n:Nat):(a.add m).add n=a.add (m+n):=by
 unfold Addr.add
 by_cases h1:m=0
 ·subst h1;simp
 ·by_cases h2:n=0
  ·subst h2;simp
  ·simp [h1,h2];omega
theorem Arr.drop {k:IntKind} {w:World} {s:Sl} {l:List Nat} (h:Arr k w s l) (n:Nat) (hn:n≤l.length):Arr k w ⟨slA s.a n s.c 1,s.l-n,s.c-n⟩ (l.drop n):=by
 have h1:=h.len
 have h2:=h.cap
 refine ⟨by simp [h1],by simp only;omega,?_,?_⟩
 ·intro e
  simp only [slA] at e
  split at e
  ·rw [h.non e];simp
  ·rw [h.non (by simpa using e)];simp
 ·intro b hb i hi
  simp only [List.length_drop] at hi
  simp only [slA] at hb
  rw [if_neg (by omega)] at hb
  cases ha:s.a with
  | none=>rw [ha] at hb;cases hb
  | some a =>
   rw [ha] at hb
   injection hb with hb
   subst hb
   rw [Nat.mul_one,add_add,h.get a ha (n+i) (by omega)]
   simp
theorem Arr.has {k:IntKind} {w:World} {s:Sl} {l:List Nat} (h:Arr k w s l):Has 1 w s (l.map fun x=>Value.int k (x:Nat)):=by
 refine ⟨by simp [h.len],?_,?_,?_⟩
 ·intro b hb i hi
  simp only [List.length_map] at hi
  rw [h.get b hb i hi]
  simp [hi]
 ·intro e;rw [h.non e];rfl
 ·intro v hv
  simp only [List.mem_map] at hv
  obtain ⟨x,_,rfl⟩:=hv
  rfl
def bytes (k:IntKind) (l:List Nat):List Value:=l.map fun x=>Value.int k (x:Nat)
theorem Vec.arr {k:IntKind} {w:World} {s:Sl} {l:List Nat} (h:Vec 1 w s (bytes k l)):Arr k w s l:=by
 have h1:=h.len
 simp only [bytes,List.length_map,Nat.mul_one] at h1
 refine ⟨h1.symm,h.cap,?_,?_⟩
 ·intro e
  have h2:=h.non e
  have h3:=h.cap
  exact List.length_eq_zero_iff.mp (by omega)
 ·intro b hb i hi
  obtain ⟨e1,e2,f,h3,h4,h5⟩:=h.blk b hb
  obtain ⟨ab,ao,asp⟩:=b
  simp only at e1 e2 h3
  subst e1 e2
  rw [add_mk,Nat.zero_add,h3.cell,h4 i (by simpa [bytes] using hi)]
  simp [bytes,hi]
theorem Vec.empty {w:World} {sz b:Nat} {f:Cells} (h:Blk w b f):Vec sz w ⟨some ⟨b,0,none⟩,0,0⟩ []:=by
 refine ⟨by simp,Nat.le_refl _,(fun h=>by cases h),?_⟩
 intro a ha
 injection ha with ha
 subst ha
 exact ⟨rfl,rfl,f,h,by simp,by simp⟩
theorem slc_lo {w:World} {s:Sl} {x:Int} {n:Nat} {κ:Sl→PT} (hx:x=n) (hn:n≤s.l) (h:κ ⟨slA s.a n s.c 1,s.l-n,s.c-n⟩ w):slc 1 s (some x) none none κ w :=
 ⟨n,s.l,s.c,rfl,rfl,⟨hx,hn⟩,h⟩
theorem maxI_le {a b:Int} (h:b≤a):maxI a b=a:=by unfold maxI;rw [if_neg (by omega)]
theorem maxI_gt {a b:Int} (h:a≤b):maxI a b=b:=by
 unfold maxI
 split
 ·rfl
 ·omega
theorem c49 {w:World} {s:Sl} {l:List Nat} {K:Sl×Int×Sl×Bool→PT} (hb:Arr .u8 w s l) (hl:By l) (hn:l.length<2^40)
  (h0:fseRead l=none→∀w',Fm w w' []→K (⟨none,0,0⟩,0,⟨none,0,0⟩,false) w')
  (h1:∀cs t rest,fseRead l=some (cs,t,rest)→∀w' c r,Fm w w' []→Vec 1 w' c (ints cs)→(∀x∈c.bs,w.heap.size≤x)→Arr .u8 w' r rest→(∀x∈r.bs,w.heap.size≤x)→K (c,((t:Nat):Int),r,true) w') :
  callP Tryd.prog 49 #[.slice s.a s.l s.c] [.c .S,.c (.I .i64),.c .S,.c .B] K w:=by
 apply q49_ok
 unfold q49
 have H0:HD w (w.alloc (.cells ⟨[(.slice s.a s.l s.c),(.int .i64 (0:Int)),(.bool true),(.slice none 0 0)]⟩ 148)) w.heap.size s ⟨0,true,[]⟩:=by
  refine ⟨Nat.le_refl _,(Fm.refl w []).alloc,⟨none,0,0⟩,Blk.new.congr ?_,Vec.nil,by simp [Sl.bs]⟩
  funext i;rcases i with _|_|_|_|i<;>simp [hdC]
 refine c67h (n:=4) H0 hb hl (by simp) (by omega) ?_
 intro w1 H1
 have ht:tkZ l 0 4<16:=Nat.mod_lt _ (by omega)
 simp only [Nat.zero_add,Bool.true_and] at H1
 have e1:IntKind.i64.wrap (((tkZ l 0 4:Nat):Int)+5)=((tkZ l 0 4+5:Nat):Int):=by rw [wI64 (by omega) (by omega)];simp
 have e2:shlI .i64 1 ((tkZ l 0 4+5:Nat):Int)=((2^(tkZ l 0 4+5):Nat):Int):=by
  have hpp:2^(tkZ l 0 4+5)≤2^20:=Nat.pow_le_pow_right (by omega) (by omega)
  have:=shlI_nat .i64 1 (tkZ l 0 4+5) (by simp [IntKind.bits];omega) (by simp only [IntKind.bits];omega)
  rw [Nat.one_mul] at this;exact this
 simp only at H1 ⊢
 rw [e1,e2]
 unfold fseRead at h0 h1
 refine ⟨by omega,cnd_d ?_ ?_⟩
 ·intro hc
  rw [if_pos (by omega)] at h0
  exact h0 rfl _ H1.fr
 ·intro hc
  rw [if_neg (by omega)] at h0 h1
  generalize tkZ l 0 4+5=t at *
  have htt:2^t≤2^15:=Nat.pow_le_pow_right (by omega) (by omega)
  have hp4:Pin l ⟨4,okZ l 0 4,[]⟩:=by intro hk;have:=okZ_le hk (by omega);simpa using this
  generalize hs0:(⟨4,okZ l 0 4,[]⟩:HS)=s0 at *
  have hs0p:s0.pos=4:=by rw [←hs0]
  have hs0c:s0.cs = []:=by rw [←hs0]
  refine ⟨fun x w'=>∃s' left,x=(((t:Nat):Int),((left:Nat):Int))∧HD w w' w.heap.size s s'∧readZ l s0 (2^t)=some (s',left)∧Pin l s'∧s'.pos≤100*s'.cs.length+4∧s'.cs.length≤303,?_,?_⟩
  ·rintro x w' ⟨s',left,rfl,H,hr,hp,hps,hcl⟩
   unfold q49_J2
   simp only [add_mk]
   rw [hr] at h0 h1
   simp only at h0 h1
   refine H.ldOk ⟨?_,?_⟩
   ·intro hk
    rw [if_neg (by intro hh;rw [hh.1] at hk;cases hk)] at h0
    exact h0 rfl _ H.fr
   ·intro hk
    have hk:s'.ok=true:=by simpa using hk
    refine cnd_nd ?_ ?_
    ·intro hc2
     rw [if_neg (by intro hh;exact hc2 (by rw [hh.2.1];rfl))] at h0
     exact h0 rfl _ H.fr
    ·intro hc2
     refine H.ldC ?_
     intro c hcl2 hv hx
     refine cnd_d ?_ ?_
     ·intro hc3
      rw [if_neg (by intro hh;omega)] at h0
      exact h0 rfl _ H.fr
     ·intro hc3
      rw [if_pos ⟨hk,by omega,by omega⟩] at h1
      unfold drw
      have H2:HD w w'.drew w.heap.size s s':=⟨H.new,H.fr.drew,by
       obtain ⟨c,a1,a2,a3⟩:=H.body
       exact ⟨c,a1.drew,a2.fr (Fm.refl w' []).drew (by simp),a3⟩⟩
      obtain ⟨c2,hB,hV,hX⟩:=H2.body
      refine ld_b (x:=c2) hB rfl ?_
      refine ld_b (t := .I .i64) (x:=(s'.pos:Int)) hB rfl ?_
      have hpos:=hp hk
      have hlen:=hb.len
      refine ⟨by decide,slc_lo (n:=(s'.pos+7)/8) ?_ (by omega) ?_⟩
      ·rw [wI64 (by omega) (by omega)]
       exact quoI_nat .i64 (s'.pos+7) 8 (by simp only [IntKind.bits];omega)
      ·unfold nw
       have F2:Fm w'.drew (w'.drew.alloc (.cells ⟨[]⟩ 5)) []:=(Fm.refl _ []).alloc
       have hB2:=hB.fr F2 (by simp)
       have hV2:=hV.fr F2 (by simp)
       have hA:=(H2.arr hb).fr F2 (by simp)
       have hN:Blk (w'.drew.alloc (.cells ⟨[]⟩ 5)) w'.drew.heap.size fun i=>(⟨[]⟩:Array Value)[i]? := Blk.new
       have hd:=hA.drop ((s'.pos+7)/8) (by omega)
       have hwh:=hB.lt
       refine ⟨?_,?_⟩
       ·intro f hf
        simp only [List.mem_cons,List.not_mem_nil,or_false] at hf
        rcases hf with rfl|rfl
        ·exact hB2.cell 1
        ·exact hB2.cell 3
       ·refine app_v (zs:=z5) (l := []) (Vec.empty hN) hd.has (by decide) (by simp only;omega) ?_
        intro r w3 g1 g2 g3
        have hne:w.heap.size∉Sl.bs ⟨some ⟨w'.drew.heap.size,0,none⟩,0,0⟩:=by
         simp [Sl.bs];have h9:w.heap.size<w'.heap.size:=hwh;omega
        have hB3:=hB2.fr g2 hne
        refine ⟨?_,?_⟩
        ·intro f hf
         simp only [List.mem_cons,List.not_mem_nil,or_false] at hf
         subst hf
         exact hB3.cell 3
        ·have hsz:=H.fr.size
         refine h1 _ _ _ rfl w3 c2 r ?_ ?_ (fun x hx=>(hX x hx).2) ?_ ?_
         ·exact ((H2.fr.trans F2 (by simp)).trans g2 (by intro x hx;right;simp [Sl.bs] at hx;subst hx;exact hsz))
         ·refine hV2.fr g2 ?_
          intro x hx hx2
          simp [Sl.bs] at hx2
          have h3:=hV.lt x hx
          subst hx2
          exact Nat.lt_irrefl _ h3
         ·rw [List.nil_append] at g1
          exact Vec.arr (k := .u8) g1
         ·intro x hx
          rcases g3 x hx with g4|g4
          ·simp [Sl.bs] at g4;subst g4;exact hsz
          ·have:=F2.size
           have:w'.heap.size≤w'.drew.heap.size:=Nat.le_refl _
           omega
  ·refine ⟨fun x w'=>∃s' left,x=(((t:Nat):Int),((left:Nat):Int))∧HD w w' w.heap.size s s'∧readZ l s' left=readZ l s0 (2^t)∧Pin l s'∧s'.pos≤100*s'.cs.length+4∧s'.cs.length≤303∧left≤2^15,
    fun _ w'=>304-hdLen w' w.heap.size,⟨s0,2^t,rfl,H1,rfl,hp4,by omega,by rw [hs0c];simp,htt⟩,?_⟩
   rintro x w' ⟨s',left,rfl,H,hr,hp,hps,hcl,hle⟩
   unfold q49_L1
   simp only [add_mk]
   refine cnd_d ?_ ?_
   ·intro hc2
    have hc2:0<left:=by omega
    refine H.ldOk ⟨?_,?_⟩
    ·intro hk
     refine H.ldC ?_
     intro c hcl2 hv hx
     rw [readZ,if_pos ⟨hc2,hk⟩] at hr
     refine cnd_d ?_ ?_
     ·intro hc3
      rw [dif_pos (by omega)] at hr
      rw [←hr] at h0
      exact h0 rfl _ H.fr
     ·intro hc3
      rw [dif_neg (by omega)] at hr
      rw [wI64 (by omega) (by omega)]
      refine c68h (most:=left+1) H hb hl (by omega) (by omega) (by omega) ?_
      intro w2 H2
      have hvl:=valZ_le l s'.pos (left+1) (by omega)
      have hlg:(left+1).log2<17:=(Nat.log2_lt (by omega)).mpr (by omega)
      have hpin2:Pin l (stepZ l s' left):=by
       intro hk2
       simp only [stepZ,Bool.and_eq_true] at hk2
       exact valZ_pin hk2.2 (hp hk2.1)
      have hst:stepZ l s' left=⟨(valZ l s'.pos (left+1)).2.1,s'.ok&&(valZ l s'.pos (left+1)).2.2,s'.cs ++ [((valZ l s'.pos (left+1)).1:Int)-1]⟩:=rfl
      unfold nextZ at hr
      generalize hS1:stepZ l s' left=S1 at *
      have hS1c:S1.cs.length=s'.cs.length+1:=by rw [hst];simp
      have hS1p:S1.pos≤s'.pos+18:=by rw [hst];simp only;omega
      generalize hv1:(valZ l s'.pos (left+1)).1=v at *
      rw [wI64 (by omega) (by omega)]
      refine H2.push (x:=(v:Int)-1) (by simp only;omega) ?_
      intro w3 H3
      simp only at H3
      rw [←hst] at H3
      have e4:∀y:Nat,(y:Int)=(if v=0 then left-1 else left:Nat)→IntKind.i64.wrap ((y:Int)-maxI ((v:Int)-1) 0)=((leftZ v left:Nat):Int):=by
       intro y hy
       unfold leftZ
       by_cases h5:v=0
       ·rw [if_pos h5] at hy ⊢
        rw [maxI_gt (by omega),wI64 (by omega) (by omega)];omega
       ·rw [if_neg h5] at hy ⊢
        rw [maxI_le (by omega),wI64 (by omega) (by omega)];omega
      have hll:leftZ v left≤left:=by unfold leftZ;split<;>omega
      have fin:∀y:Nat,(y:Int)=(if v=0 then left-1 else left:Nat)→q49_J0 ⟨w.heap.size,0,none⟩ (((t:Nat):Int),((left:Nat):Int)) (fun s'_1 w'_1=>(∃s'_2 left,s'_1=(((t:Nat):Int),((left:Nat):Int))∧HD w w'_1 w.heap.size s s'_2∧readZ l s'_2 left=readZ l s0 (2^t)∧Pin l s'_2∧s'_2.pos≤100*s'_2.cs.length+4∧s'_2.cs.length≤303∧left≤2^15)∧304-hdLen w'_1 w.heap.size<304-hdLen w' w.heap.size) v y w3:=by
       intro y hy
       unfold q49_J0
       simp only
       rw [wI64 (x:=(v:Int)-1) (by omega) (by omega),e4 y hy]
       refine cnd_d ?_ ?_
       ·intro h5
        have h5:v=1:=by omega
        rw [if_pos h5] at hr
        refine c69 H3 hb hl (by omega) (by omega) ?_
        intro w4 H4 b1 b2 b3
        refine ⟨⟨_,_,rfl,H4,hr,zerosZ_pin l _ hpin2,by omega,by omega,by omega⟩,?_⟩
        rw [H4.hdLen,H.hdLen];omega
       ·intro h5
        rw [if_neg (by omega)] at hr
        refine ⟨⟨_,_,rfl,H3,hr,hpin2,by omega,by omega,by omega⟩,?_⟩
        rw [H3.hdLen,H.hdLen];omega
      refine joinP_id (cnd_d ?_ ?_)
      ·intro h5
       rw [wI64 (by omega) (by omega)]
       have:=fin (left-1) (by rw [if_pos (by omega)])
       rw [show ((left-1:Nat):Int)=(left:Int)-1 by omega] at this
       exact this
      ·intro h5
       exact fin left (by rw [if_neg (by omega)])
    ·intro hk
     rw [readZ,if_neg (by simp [hk])] at hr
     exact ⟨s',left,rfl,H,hr.symm,hp,hps,hcl⟩
   ·intro hc2
    rw [readZ,if_neg (by omega)] at hr
    exact ⟨s',left,rfl,H,hr.symm,hp,hps,hcl⟩
def tkB (l:List Nat):Nat→Int→Nat
 | 0,_=>0
 | n+1,left=>2*tkB l n left+bitZ l (left-n-1)
theorem bitZ_lt (l:List Nat) (n:Int):bitZ l n<2:=by unfold bitZ;split<;>omega
theorem tkB_lt (l:List Nat) (n:Nat) (left:Int):tkB l n left<2^n:=by
 induction n with
 | zero=>simp [tkB]
 | succ n ih=>have:=bitZ_lt l (left-n-1);rw [tkB,Nat.pow_succ];omega
def backZ (l:List Nat):Option Nat:=match l.getLast? with
 | none=>none
 | some x=>if x=0 then none else some (8*(l.length-1)+x.log2)
def rbC (b:Sl) (left:Int):Cells:=fun i=>match i with
 | 0=>some (.slice b.a b.l b.c)
 | 1=>some (.int .i64 left)
 | _=>none
theorem rbC1 (b:Sl) (x y:Int):updC (rbC b x) 1 (.int .i64 y)=rbC b y:=by
 funext i;rcases i with _|_|i<;>simp [updC,rbC]
theorem c72 {w:World} {s:Sl} {l:List Nat} {K:Option Addr×Bool→PT} (hb:Arr .u8 w s l) (hl:By l) (hn:l.length<2^40)
  (h0:backZ l=none→K (none,false) w)
  (h1:∀left,backZ l=some left→∀w',Fm w w' []→Blk w' w.heap.size (rbC s left)→K (some ⟨w.heap.size,0,none⟩,true) w') :
  callP Tryd.prog 72 #[.slice s.a s.l s.c] [.c .P,.c .B] K w:=by
 apply q72_ok
 unfold q72
 have hlen:=hb.len
 refine cnd_d ?_ ?_
 ·intro hc
  have:l = []:=List.length_eq_zero_iff.mp (by omega)
  subst this
  exact h0 rfl
 ·intro hc
  have hpos:0<l.length:=by omega
  have hlast:l.getLast? = some l[l.length-1]:=by rw [List.getLast?_eq_getElem?,List.getElem?_eq_getElem (by omega)]
  have hx:l[l.length-1]<256:=hl _ (List.getElem_mem _)
  unfold backZ at h0 h1
  rw [hlast] at h0 h1
  simp only at h0 h1
  have e1:IntKind.i64.wrap ((s.l:Int)-1)=((l.length-1:Nat):Int):=by rw [wI64 (by omega) (by omega)];omega
  refine hb.ldk (l.length-1) e1 (by omega) ?_
  intro p hp
  refine ld_c (t := .I .u8) hp (cnd_d ?_ ?_)
  ·intro hc2
   rw [if_pos (by omega)] at h0
   exact h0 rfl
  ·intro hc2
   rw [if_neg (by omega)] at h1
   refine hb.ldk (l.length-1) e1 (by omega) ?_
   intro p hp
   refine ld_c (t := .I .u8) hp ?_
   rw [wI64 (x:=((l[l.length-1]:Nat):Int)) (by omega) (by omega)]
   refine c44 (by omega) (by omega) ?_
   have hlg:l[l.length-1].log2<8:=(Nat.log2_lt (by omega)).mpr hx
   rw [e1,wI64 (x:=8*_) (by omega) (by omega),wI64 (by omega) (by omega)]
   refine h1 _ rfl _ ((Fm.refl w []).alloc) (Blk.new.congr ?_)
   funext i;rcases i with _|_|i<;>simp [rbC]
theorem c59 {w:World} {h n:Nat} {b:Sl} {left:Int} {l:List Nat} {K:Int→PT} (H:Blk w h (rbC b left)) (hb:Arr .u8 w b l) (hh:∀a,b.a=some a→l ≠ []→a.block≠h) (hl:By l)
  (h1 : -1152921504606846976≤left) (h2:left<1152921504606846976) (hn:n≤32)
  (hk:∀w',Blk w' h (rbC b (left-n))→Fm w w' [h]→K (tkB l n left:Nat) w'):callP Tryd.prog 59 #[.pointer (some ⟨h,0,none⟩),.int .i64 n] [.c (.I .i64)] K w:=by
 apply q59_ok
 unfold q59
 refine ⟨fun x w'=>x=((tkB l n left:Nat):Int)∧Blk w' h (rbC b (left-n))∧Fm w w' [h],?_,?_⟩
 ·rintro x w' ⟨rfl,H1,F1⟩
  exact hk w' H1 F1
 ·refine ⟨fun x w'=>∃i:Nat,i≤n∧x=(((tkB l i left:Nat):Int),(i:Int))∧Blk w' h (rbC b (left-i))∧Fm w w' [h],fun x _=>n-x.2.toNat,⟨0,Nat.zero_le _,rfl,by simpa using H,Fm.refl w _⟩,?_⟩
  rintro x w' ⟨i,hi,rfl,H1,F1⟩
  unfold q59_L0
  simp only [add_mk]
  refine cnd_d ?_ ?_
  ·intro hc
   refine ld_b (t := .I .i64) (x:=left-i) H1 rfl ?_
   rw [wI64 (by omega) (by omega)]
   refine st_b H1 rfl rfl ?_
   have H2:=H1.setW (o:=0+1) (v := .int .i64 (left-i-1)) rfl (rbC1 b _ _)
   have F2:Fm w (w'.setCell ⟨h,0+1,none⟩ (.int .i64 (left-i-1))) [h]:=F1.set (.inl (by simp))
   unfold drw
   refine ld_b (x:=b) H2.drew rfl ?_
   refine ld_b (t := .I .i64) (x:=left-i-1) H2.drew rfl ?_
   refine c76 (hb.fr F2.drew (by intro a ha hn;simpa using hh a ha hn)) hl (by omega) (by omega) ?_
   have hlt:=tkB_lt l i left
   have hlt2:=bitZ_lt l (left-i-1)
   have hp:2^i≤2^32:=Nat.pow_le_pow_right (by omega) (by omega)
   simp only
   rw [wI64 (x:=2*_) (by omega) (by omega),wI64 (by omega) (by omega),wI64 (by omega) (by omega)]
   refine ⟨⟨i+1,by omega,?_,?_,F2.drew⟩,by omega⟩
   ·rw [tkB];simp
   ·have:=H2.drew
    rw [show left-((i+1:Nat):Int)=left-i-1 by omega]
    exact this
  ·intro hc
   have:i=n:=by omega
   subst this
   exact ⟨rfl,H1,F1⟩
theorem ld2_b {w:World} {b o:Nat} {f:Cells} {t u:CT} {x:t.ty} {y:u.ty} {κ:t.ty×u.ty→PT} (h:Blk w b f) (hx:f o=some (t.mk x)) (hy:f (o+1)=some (u.mk y)) (hk:κ (x,y) w):ldL [t,u] ⟨b,o,none⟩ 0 κ w:=by
 unfold ldL ldL
 simp only [add_mk,Nat.add_zero]
 exact ld_b h hx (ld_b h hy hk)
def c2C (x y:Int):Cells:=fun i=>match i with
 | 0=>some (.int .i64 x)
 | 1=>some (.int .i64 y)
 | _=>none
theorem c2C0 (x y z:Int):updC (c2C x y) 0 (.int .i64 z)=c2C z y:=by
 funext i;rcases i with _|_|i<;>simp [updC,c2C]
theorem c2C1 (x y z:Int):updC (c2C x y) 1 (.int .i64 z)=c2C x z:=by
 funext i;rcases i with _|_|i<;>simp [updC,c2C]
theorem st2_c2 {w:World} {b:Nat} {x y u v:Int} {κ:PT} (h:Blk w b (c2C x y)) (hk:∀w',Blk w' b (c2C u v)→Fm w w' [b]→κ w'):stL ⟨b,0,none⟩ 0 [.int .i64 u,.int .i64 v] κ w:=by
 unfold stL stL stL
 simp only [add_mk]
 refine st_b h rfl rfl ?_
 have h2:=h.setW (o:=0+0) (v := .int .i64 u) rfl (c2C0 x y u)
 refine st_b h2 rfl rfl ?_
 have h3:=h2.setW (o:=0+(0+1)) (v := .int .i64 v) rfl (c2C1 u y v)
 exact hk _ h3 (((Fm.refl w [b]).set (.inl (by simp))).set (.inl (by simp)))
theorem c58 {w:World} {s:Sl} {l:List Nat} {n:Nat} {K:Option Addr×(Int×Int)×Bool→PT} (hb:Arr .u8 w s l) (hl:By l) (hn:l.length<2^40) (hn2:n≤16)
  (h0:backZ l=none→∀w',Fm w w' []→K (none,(0,0),false) w')
  (h1:∀left,backZ l=some left→∀w' h,Fm w w' []→w.heap.size≤h→Blk w' h (rbC s ((left:Int)-n-n))→K (some ⟨h,0,none⟩,((tkB l n left:Nat),(tkB l n ((left:Int)-n):Nat)),decide (0≤(left:Int)-n-n)) w') :
  callP Tryd.prog 58 #[.slice s.a s.l s.c,.int .i64 n] [.c .P,.m [.I .i64,.I .i64],.c .B] K w:=by
 apply q58_ok
 unfold q58 nw
 have hlt:∀left,backZ l=some left→left<2^44:=by
  intro left h
  unfold backZ at h
  cases hg:l.getLast? with
  | none=>rw [hg] at h;cases h
  | some x =>
   rw [hg] at h
   simp only at h
   split at h
   ·cases h
   ·injection h with h
    have hx:x<256:=hl x (List.mem_of_getLast? hg)
    have hlg:x.log2<8:=(Nat.log2_lt (by assumption)).mpr hx
    omega
 have F1:Fm w (w.alloc (.cells ⟨z109⟩ 109)) []:=(Fm.refl w []).alloc
 have B1:Blk (w.alloc (.cells ⟨z109⟩ 109)) w.heap.size (c2C 0 0):=Blk.new.congr (by funext i;rcases i with _|_|i<;>simp [c2C,z109])
 refine c72 (hb.fr F1 (by simp)) hl hn ?_ ?_
 ·intro hbz
  refine ⟨fun _ => ?_,by simp⟩
  refine st2_c2 B1 ?_
  intro w2 B2 F2
  refine ld2_b (t := .I .i64) (u := .I .i64) (x:=(0:Int)) (y:=(0:Int)) B2 rfl rfl ?_
  exact h0 hbz w2 (F1.trans F2 (by simp))
 ·intro left hbz w2 F2 B2
  have hle:=hlt left hbz
  refine ⟨by simp,fun _ => ?_⟩
  have hs:(w.alloc (.cells ⟨z109⟩ 109)).heap.size=w.heap.size+1:=World.size_alloc _ _
  rw [hs] at B2
  have F12:=F1.trans F2 (by simp)
  simp only
  rw [hs]
  have hne:∀a,s.a=some a→l ≠ []→a.block≠w.heap.size+1:=by
   intro a ha hl2
   have:=hb.old hl2 a ha
   omega
  refine c59 B2 (hb.fr F12 (by simp)) hne hl (by omega) (by omega) (by omega) ?_
  intro w3 B3 F3
  have F13:Fm w w3 []:=F12.trans F3 (by simp)
  refine c59 B3 (hb.fr F13 (by simp)) hne hl (by omega) (by omega) (by omega) ?_
  intro w4 B4 F4
  have F14:Fm w w4 []:=F13.trans F4 (by simp)
  unfold drw
  refine ⟨_,rfl,?_⟩
  simp only [add_mk]
  refine ld_b (t := .I .i64) (x:=(left:Int)-n-n) B4.drew rfl ?_
  have B1':Blk w4.drew w.heap.size (c2C 0 0):=(((B1.fr F2 (by simp)).fr F3 (by simp)).fr F4 (by simp)).drew
  refine st2_c2 B1' ?_
  intro w5 B5 F5
  have F15:Fm w w5 []:=F14.drew.trans F5 (by simp)
  have B6:Blk w5 (w.heap.size+1) (rbC s ((left:Int)-n-n)):=B4.drew.fr F5 (by simp)
  refine ⟨?_,?_⟩
  ·intro f hf
   simp only [List.mem_cons,List.not_mem_nil,or_false] at hf
   subst hf
   exact B6.cell 1
  ·refine ld2_b (t := .I .i64) (u := .I .i64) (x:=((tkB l n left:Nat):Int)) (y:=((tkB l n ((left:Int)-n):Nat):Int)) B5 rfl rfl ?_
   exact h1 left hbz w5 _ F15 (by omega) B6
abbrev Cell3:=Nat×Nat×Int
def cell3 (c:Cell3):List Value := [.int .i64 (c.1:Nat),.int .i64 (c.2.1:Nat),.int .i64 c.2.2]
def flat3 (tab:List Cell3):List Value:=tab.flatMap cell3
theorem flat3_len (tab:List Cell3):(flat3 tab).length=tab.length*3:=by
 induction tab with
 | nil=>rfl
 | cons c r ih =>
  rw [show flat3 (c::r)=cell3 c++flat3 r from rfl,List.length_append,ih]
  simp [cell3];omega
theorem flat3_get (tab:List Cell3) (i j:Nat) (hi:i<tab.length) (hj:j<3):(flat3 tab)[i*3+j]? = (cell3 tab[i])[j]? := by
 induction tab generalizing i with
 | nil=>simp at hi
 | cons c r ih =>
  simp only [flat3,List.flatMap_cons] at ih ⊢
  cases i with
  | zero =>
   rw [Nat.zero_mul,Nat.zero_add,List.getElem?_append_left (by simp [cell3];exact hj)]
   rfl
  | succ i =>
   rw [List.getElem?_append_right (by simp [cell3];omega)]
   have:=ih i (by simpa using hi)
   simp only [cell3,List.length_cons,List.length_nil] at this ⊢
   rw [show (i+1)*3+j-(0+1+1+1)=i*3+j by omega,this]
   simp
theorem ld3_b {w:World} {b o:Nat} {f:Cells} {x y z:Int} {κ:Int×Int×Int→PT} (h:Blk w b f) (hx:f o=some (.int .i64 x)) (hy:f (o+1)=some (.int .i64 y)) (hz:f (o+2)=some (.int .i64 z)) (hk:κ (x,y,z) w) :
  ldL [.I .i64,.I .i64,.I .i64] ⟨b,o,none⟩ 0 κ w:=by
 unfold ldL ldL ldL
 simp only [add_mk,Nat.add_zero]
 exact ld_b (t := .I .i64) h hx (ld_b (t := .I .i64) h hy (ld_b (t := .I .i64) h hz hk))
theorem tab_ld {w:World} {s:Sl} {tab:List Cell3} {i:Int} (n:Nat) {κ:Addr→PT} (h:Vec 3 w s (flat3 tab)) (hi:i=n) (hn:n<tab.length)
  (hk:∀b o,(∃f,Blk w b f∧f o=some (.int .i64 (tab[n].1:Nat))∧f (o+1)=some (.int .i64 (tab[n].2.1:Nat))∧f (o+2)=some (.int .i64 tab[n].2.2))→κ ⟨b,o,none⟩ w):ixS 3 s i κ w:=by
 have h1:=h.len
 rw [flat3_len] at h1
 cases ha:s.a with
 | none=>have:=h.non ha;have:=h.cap;omega
 | some a =>
  obtain ⟨e1,e2,f,h3,h4,h5⟩:=h.blk a ha
  obtain ⟨ab,ao,asp⟩:=a
  simp only at e1 e2 h3
  subst e1 e2
  refine ixS_b ha hi (by omega) ?_
  rw [Nat.zero_add]
  refine hk _ _ ⟨f,h3,?_,?_,?_⟩
  ·rw [h4 _ (by rw [flat3_len];omega)];have:=flat3_get tab n 0 hn (by omega);simpa [cell3] using this
  ·rw [h4 _ (by rw [flat3_len];omega)];have:=flat3_get tab n 1 hn (by omega);simpa [cell3] using this
  ·rw [h4 _ (by rw [flat3_len];omega)];have:=flat3_get tab n 2 hn (by omega);simpa [cell3] using this
def c3C (x y z:Int):Cells:=fun i=>match i with
 | 0=>some (.int .i64 x)
 | 1=>some (.int .i64 y)
 | 2=>some (.int .i64 z)
 | _=>none
theorem nw3 {w:World} {x y z:Int} {κ:Addr→PT} (hk:∀w',Fm w w' []→w'.heap.size=w.heap.size+1→Blk w' w.heap.size (c3C x y z)→κ ⟨w.heap.size,0,none⟩ w') :
  nw z113 113 (fun p=>stL p 0 [.int .i64 x,.int .i64 y,.int .i64 z] (κ p)) w:=by
 unfold nw stL stL stL stL
 simp only [add_mk]
 have F1:Fm w (w.alloc (.cells ⟨z113⟩ 113)) []:=(Fm.refl w []).alloc
 have B1:Blk (w.alloc (.cells ⟨z113⟩ 113)) w.heap.size (c3C 0 0 0):=Blk.new.congr (by funext i;rcases i with _|_|_|i<;>simp [c3C,z113])
 refine st_b B1 rfl rfl ?_
 have B2:=B1.setW (o:=0+0) (v := .int .i64 x) (g:=c3C x 0 0) rfl (by funext i;rcases i with _|_|_|i<;>simp [updC,c3C])
 refine st_b B2 rfl rfl ?_
 have B3:=B2.setW (o:=0+(0+1)) (v := .int .i64 y) (g:=c3C x y 0) rfl (by funext i;rcases i with _|_|_|i<;>simp [updC,c3C])
 refine st_b B3 rfl rfl ?_
 have B4:=B3.setW (o:=0+(0+1+1)) (v := .int .i64 z) (g:=c3C x y z) rfl (by funext i;rcases i with _|_|_|i<;>simp [updC,c3C])
 exact hk _ (((F1.set (.inr (Nat.le_refl _))).set (.inr (Nat.le_refl _))).set (.inr (Nat.le_refl _))) (by simp) B4
def twoZ (l:List Nat) (tab:List Cell3) (limit:Nat) (left:Int) (a b:Nat) (out:List Nat):Option (List Nat) :=
 if hz:limit<out.length+1 then none else
  match tab[a]? with
  | none=>none
  | some c =>
   if left-(c.2.1:Nat)<0 then
    match tab[b]? with
    | none=>none
    | some d=>if limit<out.length+2 then none else some (out ++ [c.1%256] ++ [d.1%256])
   else if c.2.2+(tkB l c.2.1 left:Nat)<0∨(tab.length:Int)≤c.2.2+(tkB l c.2.1 left:Nat) then none
   else twoZ l tab limit (left-(c.2.1:Nat)) b (c.2.2+(tkB l c.2.1 left:Nat)).toNat (out ++ [c.1%256])
termination_by limit+1-out.length
decreasing_by
 simp only [List.length_append,List.length_cons,List.length_nil]
 omega
def twoStatesZ (l:List Nat) (tab:List Cell3) (n limit:Nat):Option (List Nat) :=
 match backZ l with
 | none=>none
 | some left=>if 0≤(left:Int)-n-n then twoZ l tab limit ((left:Int)-n-n) (tkB l n left) (tkB l n ((left:Int)-n)) [] else none
theorem backZ_lt {l:List Nat} {left:Nat} (hl:By l) (h:backZ l=some left):left<8*l.length:=by
 unfold backZ at h
 cases hg:l.getLast? with
 | none=>rw [hg] at h;cases h
 | some x =>
  rw [hg] at h
  simp only at h
  split at h
  ·cases h
  ·injection h with h
   have hx:x<256:=hl x (List.mem_of_getLast? hg)
   have hlg:x.log2<8:=(Nat.log2_lt (by assumption)).mpr hx
   have:l ≠ []:=by intro e;subst e;simp at hg
   have:=List.length_pos_iff.mpr this
   omega
theorem By.app {a b:List Nat} (ha:By a) (hb:By b):By (a++b):=by
 intro x hx
 rcases List.mem_append.mp hx with h|h
 ·exact ha x h
 ·exact hb x h
theorem c60 {w:World} {s s1:Sl} {l:List Nat} {tab:List Cell3} {n limit:Nat} {K:Sl×Bool→PT} (hb:Arr .u8 w s l) (hl:By l) (hn:l.length<2^40) (ht:Vec 3 w s1 (flat3 tab)) (hn2:n≤16) (htl:2^n≤tab.length) (htl2:tab.length≤2^20) (hlim:limit≤2^30)
  (hc:∀c∈tab,c.1<2^32∧c.2.1≤16 ∧ -4294967296≤c.2.2∧c.2.2<4294967296)
  (h0:twoStatesZ l tab n limit=none→∀w' s' l',Fm w w' []→Arr .u8 w' s' l'→By l'→l'.length≤limit+2→K (s',false) w')
  (h1:∀out,twoStatesZ l tab n limit=some out→∀w' s',Fm w w' []→Arr .u8 w' s' out→By out→(∀x∈s'.bs,w.heap.size≤x)→K (s',true) w') :
  callP Tryd.prog 60 #[.slice s.a s.l s.c,.slice s1.a s1.l s1.c,.int .i64 n,.int .i64 limit] [.c .S,.c .B] K w:=by
 apply q60_ok
 unfold q60
 have nilA:∀w':World,Arr .u8 w' ⟨none,0,0⟩ []:=fun w'=>⟨rfl,Nat.le_refl _,fun _=>rfl,by simp⟩
 have nilB:By []:=fun x hx=>by cases hx
 have h00:twoStatesZ l tab n limit=none→∀w',Fm w w' []→K (⟨none,0,0⟩,false) w':=fun h w' F=>h0 h w' _ [] F (nilA w') nilB (by simp)
 refine c58 hb hl hn hn2 ?_ ?_
 ·intro hbz w1 F1
  have F2:Fm w (w1.alloc (.cells ⟨z109⟩ 109)) []:=F1.alloc
  have B2:Blk (w1.alloc (.cells ⟨z109⟩ 109)) w1.heap.size (c2C 0 0):=Blk.new.congr (by funext i;rcases i with _|_|i<;>simp [c2C,z109])
  unfold nw
  refine st2_c2 B2 ?_
  intro w3 B3 F3
  refine ⟨fun _ => ?_,by simp⟩
  refine h00 (by unfold twoStatesZ;rw [hbz]) w3 (F2.trans F3 ?_)
  intro x hx;right;simp at hx;subst hx;exact F1.size
 ·intro left hbz w1 h F1 hh B1
  have hlt:=backZ_lt hl hbz
  have F2:Fm w (w1.alloc (.cells ⟨z109⟩ 109)) []:=F1.alloc
  have B2:Blk (w1.alloc (.cells ⟨z109⟩ 109)) w1.heap.size (c2C 0 0):=Blk.new.congr (by funext i;rcases i with _|_|i<;>simp [c2C,z109])
  unfold nw
  refine st2_c2 B2 ?_
  intro w3 B3 F3
  have hs1:=F1.size
  have F03:Fm w w3 []:=F2.trans F3 (by intro x hx;right;simp at hx;subst hx;exact hs1)
  have hhl:=B1.lt
  have B1':Blk w3 h (rbC s ((left:Int)-n-n)):=(B1.alloc).fr F3 (by simp;omega)
  have hp6:=B3.lt
  generalize hp6e:w1.heap.size=p6 at *
  refine cnd_nd ?_ ?_
  ·intro hc2
   refine h00 ?_ w3 F03
   unfold twoStatesZ
   rw [hbz]
   simp only
   rw [if_neg hc2]
  ·intro hc2
   have hz:twoStatesZ l tab n limit=twoZ l tab limit ((left:Int)-n-n) (tkB l n left) (tkB l n ((left:Int)-n)) []:=by
    unfold twoStatesZ
    rw [hbz]
    simp only
    rw [if_pos hc2]
   rw [hz] at h0 h00 h1
   refine ⟨fun x w'=>∃(lf:Int) (a b:Nat) (out:List Nat) (turn:Nat),x.2=(turn:Int)∧turn<2∧Vec 1 w' x.1 (bytes .u8 out)∧(∀y∈x.1.bs,w3.heap.size≤y)∧By out∧Fm w3 w' [h,p6] ∧
     Blk w' h (rbC s lf)∧Blk w' p6 (if turn=0 then c2C a b else c2C b a)∧a<tab.length∧b<tab.length∧0≤lf∧lf<2^50∧out.length≤limit ∧
     twoZ l tab limit lf a b out=twoZ l tab limit ((left:Int)-n-n) (tkB l n left) (tkB l n ((left:Int)-n)) [],fun x _=>limit+1-x.1.l,?_,?_⟩
   ·refine ⟨_,_,_,[],0,rfl,by omega,Vec.nil,by simp [Sl.bs],nilB,Fm.refl _ _,B1',B3,?_,?_,hc2,by omega,Nat.zero_le _,rfl⟩
    ·exact Nat.lt_of_lt_of_le (tkB_lt l n left) htl
    ·exact Nat.lt_of_lt_of_le (tkB_lt l n _) htl
   ·rintro ⟨xs,xt⟩ w' ⟨lf,a,b,out,turn,hxt,htn,hv,hvb,hob,F,BH,BP,ha,hb2,hl0,hl1,hol,heq⟩
    simp only
    simp only at hxt hv hvb
    subst hxt
    have F0:Fm w w' []:=F03.trans F (by intro x hx;right;simp at hx;rcases hx with rfl|rfl<;>omega)
    have hsz:=F.size
    have htb:∀y∈s1.bs,y ∉ [h,p6]:=by
     intro y hy
     have:=ht.lt y hy
     simp
     omega
    have hT:Vec 3 w' s1 (flat3 tab):=ht.fr F0 (by simp)
    have hA:Arr .u8 w' s l:=hb.fr F0 (by simp)
    have hlen:=hv.len
    simp only [bytes,List.length_map,Nat.mul_one] at hlen
    rw [twoZ] at heq
    have ga:tab[a]? = some tab[a]:=List.getElem?_eq_getElem ha
    have gb:tab[b]? = some tab[b]:=List.getElem?_eq_getElem hb2
    rw [ga] at heq
    simp only at heq
    obtain ⟨ca1,ca2,ca3,ca4⟩:=hc _ (List.getElem_mem ha)
    obtain ⟨cb1,cb2,cb3,cb4⟩:=hc _ (List.getElem_mem hb2)
    unfold q60_L0
    refine ixA_b (k:=turn) rfl htn ?_
    have BPt:(if turn=0 then c2C (a:Int) (b:Int) else c2C (b:Int) (a:Int)) (0+turn*1)=some (.int .i64 (a:Int)):=by
     rcases (show turn=0∨turn=1 by omega) with rfl|rfl<;>rfl
    have BPu:(if turn=0 then c2C (a:Int) (b:Int) else c2C (b:Int) (a:Int)) (0+(1-turn)*1)=some (.int .i64 (b:Int)):=by
     rcases (show turn=0∨turn=1 by omega) with rfl|rfl<;>rfl
    refine ld_b (t := .I .i64) (x:=(a:Int)) BP BPt ?_
    refine tab_ld a hT rfl ha ?_
    rintro tb to ⟨f,BT,g1,g2,g3⟩
    refine ld3_b BT g1 g2 g3 ?_
    refine nw3 ?_
    intro w4 F4 hs4 B4
    refine ld_b (t := .I .i64) (x:=((tab[a].1:Nat):Int)) B4 rfl ?_
    have hv4:=hv.fr F4 (by simp)
    have ew:IntKind.u8.wrap ((tab[a].1:Nat):Int)=((tab[a].1%256:Nat):Int):=wrap_u (k := .u8) rfl _
    rw [ew]
    refine app_1 hv4 rfl (by simp only;omega) ?_
    intro s16 w5 hv5 F5 hb5
    have ebs:bytes .u8 out ++ [.int .i64 0]=bytes .u8 out ++ [.int .i64 0]:=rfl
    rw [show bytes IntKind.u8 out ++ [Value.int .u8 ((tab[a].1%256:Nat):Int)]=bytes .u8 (out ++ [tab[a].1%256]) by simp [bytes]] at hv5
    have hlen5:=hv5.len
    simp only [bytes,List.length_map,Nat.mul_one,List.length_append,List.length_cons,List.length_nil] at hlen5
    have hob5:By (out ++ [tab[a].1%256]):=hob.app (by intro x hx;simp at hx;omega)
    have hsb:∀y∈xs.bs,y<w'.heap.size:=hv.lt
    have F35:Fm w3 w5 [h,p6]:=(F.trans F4 (by simp)).trans F5 (by intro x hx;right;exact hvb x hx)
    have F05:Fm w w5 []:=F03.trans F35 (by intro x hx;right;simp at hx;rcases hx with rfl|rfl<;>omega)
    have hb16:∀y∈s16.bs,w3.heap.size≤y:=by
     intro y hy
     rcases hb5 y hy with h6|h6
     ·exact hvb y h6
     ·omega
    have hb16n:∀y∈s16.bs,y≠w'.heap.size:=by
     intro y hy
     rcases hb5 y hy with h6|h6
     ·have:=hsb y h6;omega
     ·omega
    have BH5:Blk w5 h (rbC s lf):=(BH.fr F4 (by simp)).fr F5 (by intro e;have:=hvb h e;omega)
    have BP5:Blk w5 p6 (if turn=0 then c2C a b else c2C b a):=(BP.fr F4 (by simp)).fr F5 (by intro e;have:=hvb p6 e;omega)
    have B45:Blk w5 w'.heap.size (c3C (tab[a].1:Nat) (tab[a].2.1:Nat) tab[a].2.2):=B4.fr F5 (by intro e;have:=hsb _ e;omega)
    refine cnd_d ?_ ?_
    ·intro hc3
     rw [dif_pos (by omega)] at heq
     exact h00 heq.symm w5 F05
    ·intro hc3
     rw [dif_neg (by omega)] at heq
     simp only [add_mk]
     refine ld_b (t := .I .i64) (x:=((tab[a].2.1:Nat):Int)) B45 rfl ?_
     refine c59 BH5 (hb.fr F05 (by simp)) ?_ hl (by omega) (by omega) (by omega) ?_
     ·intro y hy hne
      have:=hb.old hne y hy
      omega
     intro w6 B6 F6
     have F36:Fm w3 w6 [h,p6]:=F35.trans F6 (by intro x hx;simp at hx;subst hx;left;simp)
     have F06:Fm w w6 []:=F03.trans F36 (by intro x hx;right;simp at hx;rcases hx with rfl|rfl<;>omega)
     have hne46:w'.heap.size≠h:=by omega
     have BP6:Blk w6 p6 (if turn=0 then c2C a b else c2C b a):=BP5.fr F6 (by simp;omega)
     have B46:Blk w6 w'.heap.size (c3C (tab[a].1:Nat) (tab[a].2.1:Nat) tab[a].2.2):=B45.fr F6 (by simp;omega)
     have hv6:Vec 1 w6 s16 (bytes .u8 (out ++ [tab[a].1%256])):=hv5.fr F6 (by intro y hy;have:=hb16 y hy;simp;omega)
     refine ⟨_,rfl,?_⟩
     simp only [add_mk]
     refine ld_b (t := .I .i64) (x:=lf-(tab[a].2.1:Nat)) B6 rfl ?_
     refine cnd_d ?_ ?_
     ·intro hc4
      rw [if_pos hc4,gb] at heq
      simp only at heq
      refine ixA_b (k:=1-turn) (by rw [wI64 (by omega) (by omega)];omega) (by omega) ?_
      refine ld_b (t := .I .i64) (x:=(b:Int)) BP6 BPu ?_
      refine tab_ld b (ht.fr F06 (by simp)) rfl hb2 ?_
      rintro tb to ⟨f,BT,g1,g2,g3⟩
      refine ld_b (t := .I .i64) (x:=((tab[b].1:Nat):Int)) BT g1 ?_
      have ew:IntKind.u8.wrap ((tab[b].1:Nat):Int)=((tab[b].1%256:Nat):Int):=wrap_u (k := .u8) rfl _
      rw [ew]
      refine app_1 hv6 rfl (by omega) ?_
      intro s26 w7 hv7 F7 hb7
      rw [show bytes IntKind.u8 (out ++ [tab[a].1%256]) ++ [Value.int .u8 ((tab[b].1%256:Nat):Int)]=bytes .u8 (out ++ [tab[a].1%256] ++ [tab[b].1%256]) by simp [bytes]] at hv7
      have hlen7:=hv7.len
      simp only [bytes,List.length_map,Nat.mul_one,List.length_append,List.length_cons,List.length_nil] at hlen7
      have hob7:By (out ++ [tab[a].1%256] ++ [tab[b].1%256]):=hob5.app (by intro x hx;simp at hx;omega)
      have F07:Fm w w7 []:=F06.trans F7 (by intro x hx;right;have:=hb16 x hx;omega)
      by_cases hc5:limit<out.length+2
      ·rw [if_pos hc5] at heq
       have:=h0 heq.symm w7 s26 _ F07 hv7.arr hob7 (by simp;omega)
       rw [show decide ((s26.l:Int)≤(limit:Int))=false by simp;omega]
       exact this
      ·rw [if_neg hc5] at heq
       rw [show decide ((s26.l:Int)≤(limit:Int))=true by simp;omega]
       refine h1 _ heq.symm w7 s26 F07 hv7.arr hob7 ?_
       intro x hx
       rcases hb7 x hx with h6|h6
       ·have:=hb16 x h6;omega
       ·have:=F06.size;omega
     ·intro hc4
      rw [if_neg hc4] at heq
      refine ld_b (t := .I .i64) (x:=tab[a].2.2) B46 rfl ?_
      refine ixA_b (k:=turn) rfl htn ?_
      have htk:=tkB_lt l tab[a].2.1 lf
      have hpw:2^tab[a].2.1≤2^16:=Nat.pow_le_pow_right (by omega) ca2
      have ew2:IntKind.i64.wrap (tab[a].2.2+((tkB l tab[a].2.1 lf:Nat):Int))=tab[a].2.2+((tkB l tab[a].2.1 lf:Nat):Int):=wI64 (by omega) (by omega)
      rw [ew2]
      generalize hV:tab[a].2.2+((tkB l tab[a].2.1 lf:Nat):Int)=v at *
      refine st_b BP6 (by rw [BPt];rfl) rfl ?_
      have BP7:=BP6.setW (o:=0+turn*1) (v := .int .i64 v) (g:=if turn=0 then c2C v b else c2C b v) (by rw [BPt];rfl) (by
       rcases (show turn=0∨turn=1 by omega) with rfl|rfl
       ·exact c2C0 _ _ _
       ·exact c2C1 _ _ _)
      have BPt7:(if turn=0 then c2C v (b:Int) else c2C (b:Int) v) (0+turn*1)=some (.int .i64 v):=by
       rcases (show turn=0∨turn=1 by omega) with rfl|rfl<;>rfl
      have F37:Fm w3 (w6.setCell ⟨p6,0+turn*1,none⟩ (.int .i64 v)) [h,p6]:=F36.set (.inl (by simp))
      have F67:Fm w6 (w6.setCell ⟨p6,0+turn*1,none⟩ (.int .i64 v)) [p6]:=(Fm.refl w6 [p6]).set (.inl (by simp))
      have F07:Fm w (w6.setCell ⟨p6,0+turn*1,none⟩ (.int .i64 v)) []:=F06.set (.inr (by simp only;omega))
      generalize w6.setCell ⟨p6,0+turn*1,none⟩ (.int .i64 v)=w7 at *
      refine ixA_b (k:=turn) rfl htn ?_
      refine ld_b (t := .I .i64) (x:=v) BP7 BPt7 ?_
      refine cnd_d ?_ ?_
      ·intro hc5
       rw [if_pos (.inl hc5)] at heq
       exact h00 heq.symm w7 F07
      ·intro hc5
       refine ixA_b (k:=turn) rfl htn ?_
       refine ld_b (t := .I .i64) (x:=v) BP7 BPt7 ?_
       have hsl:s1.l=tab.length:=by have:=ht.len;rw [flat3_len] at this;omega
       rw [hsl]
       refine cnd_d ?_ ?_
       ·intro hc6
        rw [if_pos (.inr hc6)] at heq
        exact h00 heq.symm w7 F07
       ·intro hc6
        rw [if_neg (by omega)] at heq
        have hvn:((v.toNat:Nat):Int)=v:=by omega
        refine ⟨⟨lf-(tab[a].2.1:Nat),b,v.toNat,out ++ [tab[a].1%256],1-turn,?_,by omega,?_,hb16,hob5,F37,?_,?_,hb2,by omega,by omega,by omega,by simp;omega,heq⟩,?_⟩
        ·rw [wI64 (by omega) (by omega)];omega
        ·exact hv6.fr F67 (by intro y hy;have:=hb16 y hy;simp;omega)
        ·exact B6.fr F67 (by simp;omega)
        ·rw [hvn]
         rcases (show turn=0∨turn=1 by omega) with rfl|rfl
         ·exact BP7
         ·exact BP7
        ·omega
def arrC (k:IntKind) (n:Nat) (f:Nat→Int):Cells:=fun i=>if i<n then some (.int k (f i)) else none
def updF (f:Nat→Int) (o:Nat) (v:Int):Nat→Int:=fun i=>if i=o then v else f i
theorem arrC_get {k:IntKind} {n i:Nat} {f:Nat→Int} (h:i<n):arrC k n f i=some (.int k (f i)):=if_pos h
theorem arrC_upd {k:IntKind} {n i:Nat} {f:Nat→Int} {v:Int} (h:i<n):updC (arrC k n f) i (.int k v)=arrC k n (updF f i v):=by
 funext j
 unfold updC arrC updF
 by_cases e:j=i
 ·subst e;simp [h]
 ·simp [e]
theorem zrep1 (v:Value) (n i:Nat):(zrep [v] n)[i]? = if i<n then some v else none:=by
 split
 ·rename_i h
  rw [Array.getElem?_eq_getElem (by rw [zrep_size];simpa using h)]
  simp [zrep,Nat.mod_one]
 ·rename_i h
  rw [Array.getElem?_eq_none (by rw [zrep_size];simp;omega)]
theorem mks1 {w:World} {k:IntKind} {v l c:Int} {n bytes:Nat} {T:TypeId} {κ:Sl→PT} (hl:l=n) (hc:c=n) (hn:n*bytes≤2^47)
  (hk:∀w',Fm w w' []→w'.heap.size=w.heap.size+1→Blk w' w.heap.size (arrC k n fun _=>v)→κ ⟨some ⟨w.heap.size,0,none⟩,n,n⟩ w'):mks [.int k v] T bytes l c κ w:=by
 refine ⟨n,n,hl,hc,Nat.le_refl _,hn,hk _ (Fm.refl w []).alloc (World.size_alloc _ _) (Blk.new.congr ?_)⟩
 funext i
 exact zrep1 _ _ _
theorem ixS1 {w:World} {b l c k:Nat} {i:Int} {κ:Addr→PT} (hi:i=k) (hk:k<l) (h:κ ⟨b,k,none⟩ w):ixS 1 ⟨some ⟨b,0,none⟩,l,c⟩ i κ w:=by
 refine ixS_b rfl hi hk ?_
 rw [Nat.zero_add,Nat.mul_one]
 exact h
theorem Vec.ldI {w:World} {s:Sl} {l:List Int} {i:Int} (n:Nat) {κ:Addr→PT} (h:Vec 1 w s (ints l)) (hi:i=n) (hn:n<l.length) (hk:∀p,w.cell? p=some (.int .i64 l[n])→κ p w):ixS 1 s i κ w:=by
 have h1:=h.len
 rw [ints_len,Nat.mul_one] at h1
 cases ha:s.a with
 | none=>have:=h.non ha;have:=h.cap;omega
 | some a =>
  obtain ⟨e1,e2,f,h3,h4,h5⟩:=h.blk a ha
  obtain ⟨ab,ao,asp⟩:=a
  simp only at e1 e2 h3
  subst e1 e2
  refine ixS_b ha hi (by omega) (hk _ ?_)
  rw [Nat.zero_add,Nat.mul_one,h3.cell,h4 n (by rw [ints_len];exact hn)]
  simp [ints,hn]
def muZ (size a:Nat):Nat:=((size-a)*(if size=32 then 7 else 3))%size
def stepOf (size:Nat):Nat:=size/2+size/8+3
theorem muZ_step (size a:Nat) (hs:size=32∨size=64) (ha:a<size) (h0:a≠0):muZ size a=muZ size ((a+stepOf size)%size)+1:=by
 have h32:∀a:Fin 32,a.val≠0→muZ 32 a.val=muZ 32 ((a.val+stepOf 32)%32)+1:=by decide
 have h64:∀a:Fin 64,a.val≠0→muZ 64 a.val=muZ 64 ((a.val+stepOf 64)%64)+1:=by decide
 rcases hs with rfl|rfl
 ·exact h32 ⟨a,ha⟩ h0
 ·exact h64 ⟨a,ha⟩ h0
def nxtF (size e:Nat):Nat→Nat→Nat
 | 0,a=>a
 | m+1,a=>if a<e then a else nxtF size e m ((a+stepOf size)%size)
def nxtZ (size e a:Nat):Nat:=nxtF size e (muZ size ((a+stepOf size)%size)) ((a+stepOf size)%size)
theorem nxtF_lt {size e m a:Nat} (h:a<e):nxtF size e m a=a:=by
 cases m with
 | zero=>rfl
 | succ m=>rw [nxtF,if_pos h]
def lowZ:List Int→Nat→Nat→(Nat→Int)→(Nat→Int)×Nat
 | [],_,e,f=>(f,e)
 | c::r,i,e,f=>if c = -1∧0<e then lowZ r (i+1) (e-1) (updF f (e-1) i) else lowZ r (i+1) e f
def symsZ:List Int→Nat→List Nat
 | [],_ => []
 | c::r,i=>List.replicate c.toNat i++symsZ r (i+1)
def layZ (size e:Nat):List Nat→Nat→(Nat→Int)→Option ((Nat→Int)×Nat)
 | [],a,f=>some (f,a)
 | s::r,a,f=>if e≤a then none else layZ size e r (nxtZ size e a) (updF f a s)
def spreadZ (cs:List Int) (size:Nat) (f0:Nat→Int):Option ((Nat→Int)×Nat) :=
 layZ size (lowZ cs 0 size f0).2 (symsZ cs 0) 0 (lowZ cs 0 size f0).1
theorem drop_cons {α:Type} {l:List α} {i:Nat} (h:i<l.length):l.drop i=l[i]::l.drop (i+1):=by
 rw [List.drop_eq_getElem_cons h]
theorem c75 {w:World} {s:Sl} {cs:List Int} {t:Nat} {K:Sl→PT} (hv:Vec 1 w s (ints cs)) (ht:t=5∨t=6) (hn:cs.length≤2^20) (hc:∀c∈cs, -1≤c∧c≤2^20)
  (h0:spreadZ cs (2^t) (fun _ => -1)=none→∀w',Fm w w' []→K ⟨none,0,0⟩ w')
  (h1:∀f a,spreadZ cs (2^t) (fun _ => -1)=some (f,a)→∀w' b,Fm w w' []→w.heap.size≤b→Blk w' b (arrC .i64 (2^t) f)→K ⟨some ⟨b,0,none⟩,2^t,2^t⟩ w') :
  callP Tryd.prog 75 #[.slice s.a s.l s.c,.int .i64 t] [.c .S] K w:=by
 apply q75_ok
 unfold q75
 have hsz:2^t=32∨2^t=64:=by rcases ht with rfl|rfl<;>simp
 have e1:shlI .i64 1 ((t:Nat):Int)=((2^t:Nat):Int):=by rcases ht with rfl|rfl<;>rfl
 have hvl:s.l=cs.length:=by have:=hv.len;rw [ints_len] at this;omega
 unfold q75_J11 q75_J10
 rw [e1]
 generalize hS:2^t=size at *
 have e2:quoI .i64 (size:Int) 2=((size/2:Nat):Int):=quoI_nat .i64 size 2 (by simp only [IntKind.bits];omega)
 have e3:quoI .i64 (size:Int) 8=((size/8:Nat):Int):=quoI_nat .i64 size 8 (by simp only [IntKind.bits];omega)
 have e5:IntKind.i64.wrap (IntKind.i64.wrap (((size/2:Nat):Int)+((size/8:Nat):Int))+3)=((stepOf size:Nat):Int):=by
  rw [wI64 (x:=((size/2:Nat):Int)+_) (by omega) (by omega),wI64 (by omega) (by omega)];simp [stepOf]
 have estep:∀a:Nat,a<size→Int.tmod (IntKind.i64.wrap ((a:Int)+((stepOf size:Nat):Int))) (size:Int)=(((a+stepOf size)%size:Nat):Int):=by
  intro a ha
  have:stepOf size<100:=by unfold stepOf;omega
  rw [wI64 (by omega) (by omega)]
  rfl
 refine ⟨by omega,mks1 (n:=size) rfl rfl (by omega) ?_⟩
 intro w1 F1 hs1 B1
 generalize hbe:w.heap.size=b at *
 refine ⟨fun _ w'=>Fm w1 w' [b]∧Blk w' b (arrC .i64 size fun _ => -1),?_,?_⟩
 ·rintro _ w2 ⟨F2,B2⟩
  have F02:Fm w w2 []:=F1.trans F2 (by intro x hx;right;simp at hx;omega)
  have hbl:=B2.lt
  refine ⟨fun x w'=>Fm w w' []∧∃(e:Nat) (f:Nat→Int),x=((e:Nat):Int)-1∧e≤size∧Blk w' b (arrC .i64 size f)∧(f,e)=lowZ cs 0 size fun _ => -1,?_,?_⟩
  ·rintro x w3 ⟨F3,e,f,rfl,he,B3,hlow⟩
   have hlow1:(lowZ cs 0 size fun _ => -1).1=f:=by rw [←hlow]
   have hlow2:(lowZ cs 0 size fun _ => -1).2=e:=by rw [←hlow]
   unfold spreadZ at h0 h1
   rw [hlow1,hlow2] at h0 h1
   refine ⟨by decide,by decide,?_⟩
   refine ⟨fun _ w'=>∃f' a',Fm w w' []∧layZ size e (symsZ cs 0) 0 f=some (f',a')∧Blk w' b (arrC .i64 size f'),?_,?_⟩
   ·rintro _ w4 ⟨f',a',F4,hl4,B4⟩
    exact h1 f' a' hl4 w4 b F4 (by omega) B4
   ·refine ⟨fun x w'=>∃(a i:Nat) (f':Nat→Int),x=((a:Int),(i:Int))∧i≤cs.length∧a<size∧Fm w w' []∧Blk w' b (arrC .i64 size f')∧layZ size e (symsZ (cs.drop i) i) a f'=layZ size e (symsZ cs 0) 0 f,
     fun x _=>cs.length-x.2.toNat,⟨0,0,f,rfl,by omega,by omega,F3,B3,rfl⟩,?_⟩
    rintro x w4 ⟨a,i,f4,rfl,hi,ha,F4,B4,hlay⟩
    unfold q75_L8
    simp only
    refine cnd_d ?_ ?_
    ·intro hc2
     have hi2:i<cs.length:=by omega
     have hcb:=hc _ (List.getElem_mem hi2)
     rw [drop_cons hi2,symsZ] at hlay
     refine ⟨fun x w'=>∃(a:Nat) (f':Nat→Int),x=(a:Int)∧a<size∧Fm w w' []∧Blk w' b (arrC .i64 size f')∧layZ size e (symsZ (cs.drop (i+1)) (i+1)) a f'=layZ size e (symsZ cs 0) 0 f,?_,?_⟩
     ·rintro x w5 ⟨a5,f5,rfl,ha5,F5,B5,hl5⟩
      unfold q75_J7
      simp only
      rw [wI64 (by omega) (by omega)]
      exact ⟨⟨a5,i+1,f5,by simp,by omega,ha5,F5,B5,hl5⟩,by omega⟩
     ·refine (hv.fr F4 (by simp)).ldI i rfl hi2 ?_
      intro p hp
      refine ld_c (t := .I .i64) hp ?_
      generalize cs[i]=c at *
      refine ⟨fun x w'=>∃(a k:Nat) (f':Nat→Int),x=((a:Int),(k:Int))∧k≤c.toNat∧a<size∧Fm w w' []∧Blk w' b (arrC .i64 size f') ∧
       layZ size e (List.replicate (c.toNat-k) i++symsZ (cs.drop (i+1)) (i+1)) a f'=layZ size e (symsZ cs 0) 0 f,fun x _=>c.toNat-x.2.toNat,⟨a,0,f4,rfl,by omega,ha,F4,B4,hlay⟩,?_⟩
      rintro x w5 ⟨a5,k,f5,rfl,hk,ha5,F5,B5,hl5⟩
      unfold q75_L6
      simp only
      have emax:maxI c 0=((c.toNat:Nat):Int):=by
       unfold maxI;split<;>omega
      rw [emax]
      refine cnd_d ?_ ?_
      ·intro hc3
       have hk2:k<c.toNat:=by omega
       rw [show c.toNat-k=(c.toNat-(k+1))+1 by omega,List.replicate_succ,List.cons_append,layZ] at hl5
       refine ⟨fun x w'=>∃(a':Nat),x=(a':Int)∧a'<size∧a'=nxtZ size e a5∧a5<e∧Fm w w' []∧Blk w' b (arrC .i64 size (updF f5 a5 i)),?_,?_⟩
       ·rintro x w6 ⟨a6,rfl,ha6,han,hlt,F6,B6⟩
        rw [if_neg (by omega), ←han] at hl5
        unfold q75_J4
        simp only
        rw [wI64 (by omega) (by omega)]
        exact ⟨⟨a6,k+1,_,by simp,by omega,ha6,F6,B6,hl5⟩,by omega⟩
       ·unfold q75_X5
        simp only
        refine cnd_d ?_ ?_
        ·intro hc4
         rw [if_pos (by omega)] at hl5
         exact h0 hl5.symm w5 F5
        ·intro hc4
         have hae:a5<e:=by omega
         refine ixS1 rfl ha5 ?_
         refine st_b B5 (by rw [arrC_get ha5];rfl) rfl ?_
         have B6:=B5.setW (o:=a5) (v := .int .i64 (i:Nat)) (by rw [arrC_get ha5];rfl) (arrC_upd ha5)
         have F6:Fm w (w5.setCell ⟨b,a5,none⟩ (.int .i64 (i:Nat))) []:=F5.set (.inr (by simp only;omega))
         generalize w5.setCell ⟨b,a5,none⟩ (.int .i64 (i:Nat))=w6 at *
         refine ⟨by omega,?_⟩
         simp only [e1,e2,e3,e5]
         rw [estep a5 ha5]
         have hm:(a5+stepOf size)%size<size:=Nat.mod_lt _ (by omega)
         refine ⟨fun x w'=>w'=w6∧∃a':Nat,x=(a':Int)∧a'<size∧nxtF size e (muZ size a') a'=nxtZ size e a5,fun x _=>muZ size x.toNat,⟨rfl,_,rfl,hm,rfl⟩,?_⟩
         rintro x w7 ⟨rfl,a7,rfl,ha7,hn7⟩
         unfold q75_L3
         simp only [e1,e2,e3,e5]
         refine cnd_d ?_ ?_
         ·intro hc5
          refine cnd_d ?_ (by intro h;omega)
          intro hc6
          refine cnd_d ?_ (by intro h;omega)
          intro hc7
          refine ⟨by omega,?_⟩
          rw [estep a7 ha7]
          have hm7:=muZ_step size a7 hsz ha7 (by omega)
          refine ⟨⟨rfl,_,rfl,Nat.mod_lt _ (by omega),?_⟩,?_⟩
          ·rw [←hn7,hm7,nxtF,if_neg (by omega)]
          ·simp only [Int.toNat_natCast];omega
         ·intro hc5
          refine ⟨a7,rfl,ha7,?_,hae,F6,B6⟩
          rw [←hn7,nxtF_lt (by omega)]
      ·intro hc3
       have hk2:k=c.toNat:=by omega
       rw [hk2,Nat.sub_self] at hl5
       exact ⟨a5,f5,rfl,ha5,F5,B5,hl5⟩
    ·intro hc2
     have hi2:i=cs.length:=by omega
     rw [hi2,List.drop_length] at hlay
     exact ⟨f4,a,F4,hlay.symm,B4⟩
  ·rw [wI64 (by omega) (by omega)]
   refine ⟨fun x w'=>Fm w w' []∧∃(e i:Nat) (f:Nat→Int),x=(((e:Nat):Int)-1,(i:Int))∧e≤size∧i≤cs.length∧Blk w' b (arrC .i64 size f)∧lowZ (cs.drop i) i e f=lowZ cs 0 size fun _ => -1,
    fun x _=>cs.length-x.2.toNat,⟨F02,size,0,_,rfl,Nat.le_refl _,Nat.zero_le _,B2,rfl⟩,?_⟩
   rintro x w3 ⟨F3,e,i,f,rfl,he,hi,B3,hlow⟩
   unfold q75_L2
   simp only
   refine cnd_d ?_ ?_
   ·intro hc2
    have hi2:i<cs.length:=by omega
    rw [drop_cons hi2,lowZ] at hlow
    refine joinP_id ?_
    refine (hv.fr F3 (by simp)).ldI i rfl hi2 ?_
    intro p hp
    refine ld_c (t := .I .i64) hp ?_
    unfold q75_J1
    simp only
    rw [wI64 (x:=(i:Int)+1) (by omega) (by omega)]
    refine cnd_d ?_ ?_
    ·intro hc3
     refine cnd_d ?_ ?_
     ·intro hc4
      have he0:0<e:=by omega
      rw [if_pos ⟨hc3,he0⟩] at hlow
      refine ixS1 (k:=e-1) (by omega) (by omega) ?_
      have hlt:e-1<size:=by omega
      refine st_b B3 (by rw [arrC_get hlt];rfl) rfl ?_
      have B4:=B3.setW (o:=e-1) (v := .int .i64 (i:Nat)) (by rw [arrC_get hlt];rfl) (arrC_upd hlt)
      rw [wI64 (by omega) (by omega)]
      exact ⟨⟨F3.set (.inr (by simp only;omega)),e-1,i+1,_,by simp;omega,by omega,by omega,B4,hlow⟩,by omega⟩
     ·intro hc4
      rw [if_neg (by omega)] at hlow
      exact ⟨⟨F3,e,i+1,f,by simp,he,by omega,B3,hlow⟩,by omega⟩
    ·intro hc3
     rw [if_neg (by omega)] at hlow
     exact ⟨⟨F3,e,i+1,f,by simp,he,by omega,B3,hlow⟩,by omega⟩
   ·intro hc2
    have hi2:i=cs.length:=by omega
    rw [hi2,List.drop_length] at hlow
    exact ⟨F3,e,f,rfl,he,B3,hlow⟩
 ·refine ⟨fun x w'=>∃(i:Nat) (f:Nat→Int),x=(i:Int)∧i≤size∧Fm w1 w' [b]∧Blk w' b (arrC .i64 size f)∧∀j,j<i→f j = -1,fun x _=>size-x.toNat,⟨0,_,rfl,Nat.zero_le _,Fm.refl _ _,B1,by simp⟩,?_⟩
  rintro x w2 ⟨i,f,rfl,hi,F2,B2,hf⟩
  unfold q75_L0
  simp only
  refine cnd_d ?_ ?_
  ·intro hc2
   have hi2:i<size:=by omega
   refine ixS1 rfl hi2 ?_
   refine st_b B2 (by rw [arrC_get hi2];rfl) rfl ?_
   have B3:=B2.setW (o:=i) (v := .int .i64 (-1)) (by rw [arrC_get hi2];rfl) (arrC_upd hi2)
   rw [wI64 (by omega) (by omega)]
   refine ⟨⟨i+1,_,by simp,by omega,F2.set (.inl (by simp)),B3,?_⟩,by omega⟩
   intro j hj
   unfold updF
   split
   ·rfl
   ·exact hf j (by omega)
  ·intro hc2
   have hi2:i=size:=by omega
   refine ⟨F2,B2.congr ?_⟩
   funext j
   unfold arrC
   split
   ·rw [hf j (by omega)]
   ·rfl
def absZ (n:Int):Nat:=if n<0 then 1 else n.toNat
def sumZ (cs:List Int):Nat:=(cs.map absZ).sum
def cntZ (f:Nat→Int) (s:Int):Nat→Nat
 | 0=>0
 | i+1=>cntZ f s i+if f i=s then 1 else 0
theorem cntZ_le (f:Nat→Int) (s:Int) (i:Nat):cntZ f s i≤i:=by
 induction i with
 | zero=>exact Nat.le_refl _
 | succ i ih=>rw [cntZ];split<;>omega
def kZ (cs:List Int) (f:Nat→Int) (i:Nat):Nat:=absZ (cs.getD (f i).toNat 0)+cntZ f (f i) i
def cellZ (cs:List Int) (t:Nat) (f:Nat→Int) (i:Nat):Cell3 :=
 ((f i).toNat,t-(kZ cs f i).log2,((kZ cs f i*2^(t-(kZ cs f i).log2):Nat):Int)-((2^t:Nat):Int))
def statesZ (cs:List Int) (t:Nat):Option (List Cell3) :=
 if sumZ cs=2^t then
  match spreadZ cs (2^t) (fun _ => -1) with
  | none=>none
  | some (f,_)=>if ∀i,i<2^t→0≤f i then some ((List.range (2^t)).map (cellZ cs t f)) else none
 else none
def LaidP (cs:List Int) (f:Nat→Int):Prop:=∀p,f p = -1∨∃i:Nat,i<cs.length∧f p=(i:Int)∧cs.getD i 0≠0
theorem LaidP.upd {cs:List Int} {f:Nat→Int} {o i:Nat} (h:LaidP cs f) (hi:i<cs.length) (hc:cs.getD i 0≠0):LaidP cs (updF f o (i:Nat)):=by
 intro p
 unfold updF
 split
 ·exact .inr ⟨i,hi,rfl,hc⟩
 ·exact h p
theorem getD_Z {cs:List Int} {i:Nat} (h:i<cs.length):cs.getD i 0=cs[i]:=by rw [List.getD_eq_getElem?_getD,List.getElem?_eq_getElem h];rfl
theorem lowZ_laid (cs:List Int):∀(r:List Int) (i e:Nat) (f:Nat→Int),r=cs.drop i→LaidP cs f→LaidP cs (lowZ r i e f).1
 | [],i,e,f,hr,hf=>hf
 | c::r,i,e,f,hr,hf=>by
  have hi:i<cs.length:=by
   by_cases h:i<cs.length
   ·exact h
   ·rw [List.drop_eq_nil_of_le (by omega)] at hr;cases hr
  rw [drop_cons hi] at hr
  injection hr with h1 h2
  rw [lowZ]
  split
  ·rename_i hc
   refine lowZ_laid cs r (i+1) _ _ h2 (hf.upd hi ?_)
   rw [getD_Z hi, ←h1];omega
  ·exact lowZ_laid cs r (i+1) _ _ h2 hf
theorem symsZ_mem (cs:List Int):∀(r:List Int) (i:Nat),r=cs.drop i→∀s∈symsZ r i,s<cs.length∧cs.getD s 0≠0
 | [],i,hr,s,hs=>by cases hs
 | c::r,i,hr,s,hs=>by
  have hi:i<cs.length:=by
   by_cases h:i<cs.length
   ·exact h
   ·rw [List.drop_eq_nil_of_le (by omega)] at hr;cases hr
  rw [drop_cons hi] at hr
  injection hr with h1 h2
  rw [symsZ] at hs
  rcases List.mem_append.mp hs with h|h
  ·have:=List.mem_replicate.mp h
   refine ⟨by omega,?_⟩
   rw [this.2,getD_Z hi, ←h1];omega
  ·exact symsZ_mem cs r (i+1) h2 s h
theorem layZ_laid (cs:List Int) (size e:Nat):∀(l:List Nat) (a:Nat) (f:Nat→Int) (f':Nat→Int) (a':Nat),(∀s∈l,s<cs.length∧cs.getD s 0≠0)→LaidP cs f→layZ size e l a f=some (f',a')→LaidP cs f'
 | [],a,f,f',a',hl,hf,h=>by rw [layZ] at h;injection h with h;injection h with h1 h2;exact h1▸hf
 | s::r,a,f,f',a',hl,hf,h=>by
  rw [layZ] at h
  split at h
  ·cases h
  ·have:=hl s (by simp)
   exact layZ_laid cs size e r _ _ f' a' (fun x hx=>hl x (by simp [hx])) (hf.upd this.1 this.2) h
theorem spreadZ_laid {cs:List Int} {size a:Nat} {f:Nat→Int} (h:spreadZ cs size (fun _ => -1)=some (f,a)):LaidP cs f :=
 layZ_laid cs size _ _ _ _ f a (symsZ_mem cs cs 0 rfl) (lowZ_laid cs cs 0 _ _ rfl fun _ => .inl rfl) h
theorem mem_le_sum:∀ {l:List Nat} {a:Nat},a∈l→a≤l.sum
 | x::r,a,h=>by
  rw [List.sum_cons]
  rcases List.mem_cons.mp h with h|h
  ·omega
  ·have:=mem_le_sum h;omega
theorem absZ_le_sum {cs:List Int} {i:Nat} (h:i<cs.length):absZ cs[i]≤sumZ cs:=by
 unfold sumZ
 have:absZ cs[i]∈cs.map absZ:=List.mem_map_of_mem (List.getElem_mem h)
 exact mem_le_sum this
theorem zrep3 (n i:Nat):(zrep z113 n)[i]? = arrC .i64 (n*3) (fun _=>0) i:=by
 unfold arrC
 split
 ·rename_i h
  rw [Array.getElem?_eq_getElem (by rw [zrep_size];exact h)]
  simp only [zrep,Array.getElem_map,Array.getElem_range]
  have hm:i%z113.length<3:=Nat.mod_lt _ (by decide)
  rcases (show i%z113.length=0∨i%z113.length=1∨i%z113.length=2 by omega) with h|h|h<;>rw [h]<;>rfl
 ·rename_i h
  rw [Array.getElem?_eq_none (by rw [zrep_size];simp [z113];omega)]
theorem sumZ_take {cs:List Int} {i:Nat} (h:i<cs.length):sumZ (cs.take (i+1))=sumZ (cs.take i)+absZ cs[i]:=by
 unfold sumZ
 rw [List.take_succ_eq_append_getElem h,List.map_append,List.sum_append]
 simp only [List.map_cons,List.map_nil,List.sum_cons,List.sum_nil,Nat.add_zero]
theorem sumZ_take_le (cs:List Int) (M i:Nat) (hM:1≤M) (h:∀c∈cs,c≤M):sumZ (cs.take i)≤i*M:=by
 induction i with
 | zero=>simp [sumZ]
 | succ i ih =>
  rw [Nat.succ_mul]
  by_cases hi:i<cs.length
  ·rw [sumZ_take hi]
   have:=h _ (List.getElem_mem hi)
   have:absZ cs[i]≤M:=by unfold absZ;split<;>omega
   omega
  ·rw [List.take_of_length_le (by omega)] at ih ⊢
   omega
theorem c57 {w:World} {s:Sl} {cs:List Int} {t:Nat} {K:Sl×Bool→PT} (hv:Vec 1 w s (ints cs)) (ht:t=5∨t=6) (hn:cs.length≤2^20) (hc:∀c∈cs, -1≤c∧c≤2^20)
  (h0:statesZ cs t=none→∀w',Fm w w' []→K (⟨none,0,0⟩,false) w')
  (h1:∀tab,statesZ cs t=some tab→∀w' b,Fm w w' []→w.heap.size≤b→Vec 3 w' ⟨some ⟨b,0,none⟩,2^t,2^t⟩ (flat3 tab)→K (⟨some ⟨b,0,none⟩,2^t,2^t⟩,true) w') :
  callP Tryd.prog 57 #[.slice s.a s.l s.c,.int .i64 t] [.c .S,.c .B] K w:=by
 apply q57_ok
 unfold q57
 have hsz:2^t=32∨2^t=64:=by rcases ht with rfl|rfl<;>simp
 have e1:shlI .i64 1 ((t:Nat):Int)=((2^t:Nat):Int):=by rcases ht with rfl|rfl<;>rfl
 have hvl:s.l=cs.length:=by have:=hv.len;rw [ints_len] at this;omega
 refine ⟨by omega,fun x w'=>x=((sumZ cs:Nat):Int)∧w'=w,?_,?_⟩
 ·rintro x w' ⟨rfl,hw⟩
  have hw:=hw.symm
  subst hw
  unfold q57_J5
  rw [e1]
  refine cnd_nd ?_ ?_
  ·intro hc2
   refine h0 ?_ w (Fm.refl w _)
   unfold statesZ
   rw [if_neg (by omega)]
  ·intro hc2
   have hsum:sumZ cs=2^t:=by omega
   unfold statesZ at h0 h1
   rw [if_pos hsum] at h0 h1
   refine c75 hv ht hn hc ?_ ?_
   ·intro hsp w1 F1
    rw [hsp] at h0
    exact ⟨fun _=>h0 rfl w1 F1,by simp⟩
   ·intro f af hsp w1 bl F1 hbl BL
    rw [hsp] at h0 h1
    simp only at h0 h1
    refine ⟨by simp,fun _ => ?_⟩
    refine mks1 (n:=cs.length) (by rw [hvl]) (by rw [hvl]) (by omega) ?_
    intro w2 F2 hs2 BS
    have hs1:=F1.size
    refine ⟨2^t,2^t,rfl,rfl,Nat.le_refl _,by omega,?_⟩
    have hlaid:=spreadZ_laid hsp
    generalize hbs:w1.heap.size=bs at *
    have BO:Blk (w2.alloc (.cells (zrep z113 (2^t)) 113)) w2.heap.size (arrC .i64 (2^t*3) fun _=>0):=Blk.new.congr (by funext i;exact zrep3 _ _)
    have F3:Fm w2 (w2.alloc (.cells (zrep z113 (2^t)) 113)) []:=(Fm.refl w2 []).alloc
    have hs3:(w2.alloc (.cells (zrep z113 (2^t)) 113)).heap.size=w2.heap.size+1:=World.size_alloc _ _
    generalize w2.alloc (.cells (zrep z113 (2^t)) 113)=w3 at *
    have BL3:Blk w3 bl (arrC .i64 (2^t) f):=(BL.fr F2 (by simp)).fr F3 (by simp)
    have BS3:Blk w3 bs (arrC .i64 cs.length fun _=>0):=BS.fr F3 (by simp)
    have F03:Fm w w3 []:=(F1.trans F2 (by simp)).trans F3 (by simp)
    have hbll:=BL.lt
    have hbo:w2.heap.size=bs+1:=by omega
    rw [hbo] at BO ⊢
    refine ⟨fun _ w'=>(∀i,i<2^t→0≤f i)∧Fm w w' []∧∃g,Blk w' (bs+1) (arrC .i64 (2^t*3) g)∧∀i,i<2^t→g (i*3)=((cellZ cs t f i).1:Nat)∧g (i*3+1)=((cellZ cs t f i).2.1:Nat)∧g (i*3+2)=(cellZ cs t f i).2.2,?_,?_⟩
    ·rintro _ w4 ⟨hpos,F4,g,BO4,hg⟩
     unfold q57_J4
     rw [if_pos hpos] at h1
     refine h1 _ rfl w4 (bs+1) F4 (by omega) ⟨by rw [flat3_len];simp,Nat.le_refl _,(fun h=>by cases h),?_⟩
     intro a ha
     injection ha with ha
     subst ha
     refine ⟨rfl,rfl,_,BO4,?_,?_⟩
     ·intro j hj
      rw [flat3_len] at hj
      simp only [List.length_map,List.length_range] at hj
      have hq:j/3<2^t:=by omega
      have hj3:j=j/3*3+j%3:=by omega
      have hr:j%3<3:=Nat.mod_lt _ (by omega)
      rw [hj3,flat3_get _ _ _ (by simpa using hq) hr]
      rw [arrC_get (by omega)]
      obtain ⟨g0,g1,g2⟩:=hg _ hq
      simp only [List.getElem_map,List.getElem_range]
      rcases (show j%3=0∨j%3=1∨j%3=2 by omega) with h|h|h<;>rw [h]
      ·rw [Nat.add_zero,g0];rfl
      ·rw [g1];rfl
      ·rw [g2];rfl
     ·intro j hj
      simp only at hj
      rw [arrC_get hj];rfl
    ·refine ⟨fun x w'=>∃(i:Nat) (g h:Nat→Int),x=(i:Int)∧i≤2^t∧Fm w w' []∧Blk w' bl (arrC .i64 (2^t) f)∧Blk w' bs (arrC .i64 cs.length h)∧Blk w' (bs+1) (arrC .i64 (2^t*3) g) ∧
      (∀s:Nat,s<cs.length→h s=((cntZ f s i:Nat):Int))∧(∀j,j<i→0≤f j∧g (j*3)=((cellZ cs t f j).1:Nat)∧g (j*3+1)=((cellZ cs t f j).2.1:Nat)∧g (j*3+2)=(cellZ cs t f j).2.2),
      fun x _=>2^t-x.toNat,⟨0,_,_,rfl,Nat.zero_le _,F03,BL3,BS3,BO,by simp [cntZ],by simp⟩,?_⟩
     rintro x w4 ⟨i,g,h,rfl,hi,F4,BL4,BS4,BO4,hh,hg⟩
     unfold q57_L3
     refine cnd_d ?_ ?_
     ·intro hc3
      have hi2:i<2^t:=by simp only at hc3;omega
      refine ixS1 rfl hi2 ?_
      refine ld_b (t := .I .i64) (x:=f i) BL4 (arrC_get hi2) ?_
      refine cnd_d ?_ ?_
      ·intro hc4
       rw [if_neg (by intro hh;have:=hh i hi2;omega)] at h0
       exact h0 rfl w4 F4
      ·intro hc4
       rcases hlaid i with hm|⟨sy,hsy,hfi,hne⟩
       ·omega
       rw [hfi]
       refine (hv.fr F4 (by simp)).ldI sy rfl hsy ?_
       intro p hp
       refine ld_c (t := .I .i64) hp ?_
       have hcsy:=hc _ (List.getElem_mem hsy)
       have hle:=absZ_le_sum hsy
       have hcnt:=cntZ_le f sy i
       have hkz:kZ cs f i=absZ cs[sy]+cntZ f sy i:=by unfold kZ;rw [hfi,Int.toNat_natCast,getD_Z hsy]
       have hcell:cellZ cs t f i=(sy,t-(kZ cs f i).log2,((kZ cs f i*2^(t-(kZ cs f i).log2):Nat):Int)-((2^t:Nat):Int)):=by unfold cellZ;rw [hfi,Int.toNat_natCast]
       have habs:0<absZ cs[sy]:=by
        rw [getD_Z hsy] at hne
        unfold absZ;split<;>omega
       have hkpos:0<kZ cs f i:=by omega
       have hklt:kZ cs f i<2^(t+1):=by rw [Nat.pow_succ];omega
       have hklog:(kZ cs f i).log2<t+1:=(Nat.log2_lt (by omega)).mpr hklt
       have hkl:=Nat.log2_self_le (n:=kZ cs f i) (by omega)
       have hku:=Nat.lt_log2_self (n:=kZ cs f i)
       have hkb:kZ cs f i*2^(t-(kZ cs f i).log2)<2^(t+1):=by
        rw [show t+1=((kZ cs f i).log2+1)+(t-(kZ cs f i).log2) by omega,Nat.pow_add]
        exact Nat.mul_lt_mul_of_pos_right hku (Nat.two_pow_pos _)
       have hpt:2^(t+1)=2*2^t:=Nat.pow_succ'
       refine joinP_id ?_
       have fin:∀m:Int,m=(absZ cs[sy]:Nat)→q57_J2 t ⟨some ⟨bs,0,none⟩,cs.length,cs.length⟩ ⟨some ⟨bs+1,0,none⟩,2^t,2^t⟩ (i:Nat) (fun s' w'=>(∃(i:Nat) (g h:Nat→Int),s'=(i:Int)∧i≤2^t∧Fm w w' []∧Blk w' bl (arrC .i64 (2^t) f)∧Blk w' bs (arrC .i64 cs.length h)∧Blk w' (bs+1) (arrC .i64 (2^t*3) g) ∧
         (∀s:Nat,s<cs.length→h s=((cntZ f s i:Nat):Int))∧(∀j,j<i→0≤f j∧g (j*3)=((cellZ cs t f j).1:Nat)∧g (j*3+1)=((cellZ cs t f j).2.1:Nat)∧g (j*3+2)=(cellZ cs t f j).2.2))∧2^t-s'.toNat<2^t-(i:Int).toNat) sy m w4:=by
        rintro m rfl
        unfold q57_J2
        refine ixS1 rfl hsy (ld_b (t := .I .i64) (x:=h sy) BS4 (arrC_get hsy) (ixS1 rfl hsy (ld_b (t := .I .i64) (x:=h sy) BS4 (arrC_get hsy) (ixS1 rfl hsy ?_))))
        rw [hh sy hsy]
        refine st_b BS4 (by rw [arrC_get hsy];rfl) rfl ?_
        rw [wI64 (x:=((cntZ f sy i:Nat):Int)+1) (by omega) (by omega)]
        have BS5:=BS4.setW (o:=sy) (v := .int .i64 (((cntZ f sy i:Nat):Int)+1)) (by rw [arrC_get hsy];rfl) (arrC_upd hsy)
        have F45:Fm w4 (w4.setCell ⟨bs,sy,none⟩ (.int .i64 (((cntZ f sy i:Nat):Int)+1))) [bs]:=(Fm.refl _ _).set (.inl (by simp))
        generalize w4.setCell ⟨bs,sy,none⟩ (.int .i64 (((cntZ f sy i:Nat):Int)+1))=w5 at *
        have ek:IntKind.i64.wrap (((absZ cs[sy]:Nat):Int)+((cntZ f sy i:Nat):Int))=((kZ cs f i:Nat):Int):=by rw [wI64 (by omega) (by omega)];omega
        rw [ek]
        refine c44 hkpos (by omega) ?_
        have eb:IntKind.i64.wrap (((t:Nat):Int)-(((kZ cs f i).log2:Nat):Int))=((t-(kZ cs f i).log2:Nat):Int):=by rw [wI64 (by omega) (by omega)];omega
        simp only
        rw [eb,e1]
        have es:shlI .i64 ((kZ cs f i:Nat):Int) ((t-(kZ cs f i).log2:Nat):Int)=((kZ cs f i*2^(t-(kZ cs f i).log2):Nat):Int):=shlI_nat .i64 _ _ (by simp only [IntKind.bits];omega) (by simp only [IntKind.bits];omega)
        rw [es,wI64 (x:=((kZ cs f i*2^(t-(kZ cs f i).log2):Nat):Int)-_) (by omega) (by omega)]
        refine ⟨by omega,?_⟩
        refine ixS_b (k:=i) rfl rfl hi2 ?_
        unfold stL stL stL stL
        simp only [add_mk]
        have BO5:=BO4.fr F45 (by simp)
        have q0:0+i*3+0<2^t*3:=by omega
        have q1:0+i*3+(0+1)<2^t*3:=by omega
        have q2:0+i*3+(0+1+1)<2^t*3:=by omega
        refine st_b BO5 (by rw [arrC_get q0];rfl) rfl ?_
        have BO6:=BO5.setW (o:=0+i*3+0) (v := .int .i64 (sy:Nat)) (by rw [arrC_get q0];rfl) (arrC_upd q0)
        refine st_b BO6 (by rw [arrC_get q1];rfl) rfl ?_
        have BO7:=BO6.setW (o:=0+i*3+(0+1)) (v := .int .i64 ((t-(kZ cs f i).log2:Nat):Int)) (by rw [arrC_get q1];rfl) (arrC_upd q1)
        refine st_b BO7 (by rw [arrC_get q2];rfl) rfl ?_
        have BO8:=BO7.setW (o:=0+i*3+(0+1+1)) (v := .int .i64 (((kZ cs f i*2^(t-(kZ cs f i).log2):Nat):Int)-((2^t:Nat):Int))) (by rw [arrC_get q2];rfl) (arrC_upd q2)
        have F58:=(((Fm.refl w5 [bs+1]).set (a:=⟨bs+1,0+i*3+0,none⟩) (v := .int .i64 (sy:Nat)) (.inl (by simp))).set (a:=⟨bs+1,0+i*3+(0+1),none⟩) (v := .int .i64 ((t-(kZ cs f i).log2:Nat):Int)) (.inl (by simp))).set (a:=⟨bs+1,0+i*3+(0+1+1),none⟩) (v := .int .i64 (((kZ cs f i*2^(t-(kZ cs f i).log2):Nat):Int)-((2^t:Nat):Int))) (.inl (by simp))
        rw [wI64 (x:=((i:Nat):Int)+1) (by omega) (by omega)]
        refine ⟨⟨i+1,_,_,by simp,by omega,(F4.trans F45 ?_).trans F58 ?_,(BL4.fr F45 (by simp;omega)).fr F58 (by simp;omega),BS5.fr F58 (by simp),BO8,?_,?_⟩,by omega⟩
        ·intro x hx;right;simp at hx;omega
        ·intro x hx;right;simp at hx;omega
        ·intro s2 hs2
         unfold updF
         rw [cntZ,hfi]
         by_cases e:s2=sy
         ·subst e;simp
         ·rw [if_neg e,if_neg (by omega),hh s2 hs2];simp
        ·intro j hj
         by_cases e:j=i
         ·subst e
          rw [hcell]
          refine ⟨by omega,?_,?_,?_⟩<;>simp [updF]
         ·have:=hg j (by omega)
          refine ⟨this.1,?_,?_,?_⟩
          ·rw [←this.2.1];unfold updF;rw [if_neg (by omega),if_neg (by omega),if_neg (by omega)]
          ·rw [←this.2.2.1];unfold updF;rw [if_neg (by omega),if_neg (by omega),if_neg (by omega)]
          ·rw [←this.2.2.2];unfold updF;rw [if_neg (by omega),if_neg (by omega),if_neg (by omega)]
       refine cnd_d ?_ ?_
       ·intro hc5
        exact fin 1 (by unfold absZ;rw [if_pos hc5];rfl)
       ·intro hc5
        exact fin cs[sy] (by unfold absZ;rw [if_neg hc5];omega)
     ·intro hc3
      have hi2:i=2^t:=by simp only at hc3;omega
      subst hi2
      exact ⟨fun j hj=>(hg j hj).1,F4,g,BO4,fun j hj=>(hg j hj).2⟩
 ·refine ⟨fun x w'=>w'=w∧∃i:Nat,i≤cs.length∧x=(((sumZ (cs.take i):Nat):Int),(i:Int)),fun x _=>cs.length-x.2.toNat,⟨rfl,0,Nat.zero_le _,by simp [sumZ]⟩,?_⟩
  rintro x w' ⟨rfl,i,hi,rfl⟩
  unfold q57_L1
  simp only
  refine cnd_d ?_ ?_
  ·intro hc2
   have hi2:i<cs.length:=by omega
   refine hv.ldI i rfl hi2 ?_
   intro p hp
   refine ld_c (t := .I .i64) hp ?_
   have hb:=hc _ (List.getElem_mem hi2)
   have hle:=sumZ_take_le cs 1048576 (i+1) (by decide) (fun c hcc=>(hc c hcc).2)
   have hst:=sumZ_take hi2
   refine joinP_id ?_
   have fin:∀m:Int,m=(absZ cs[i]:Nat)→q57_J0 (((sumZ (cs.take i):Nat):Int),(i:Int)) (fun s' w'_1=>(w'_1=w'∧∃i:Nat,i≤cs.length∧s'=(((sumZ (cs.take i):Nat):Int),(i:Int)))∧cs.length-s'.2.toNat<cs.length-(i:Int).toNat) m w':=by
    rintro m rfl
    unfold q57_J0
    simp only
    rw [wI64 (by omega) (by omega),wI64 (by omega) (by omega)]
    exact ⟨⟨trivial,i+1,by omega,by rw [hst];simp⟩,by omega⟩
   refine cnd_d ?_ ?_
   ·intro hc5
    exact fin 1 (by unfold absZ;rw [if_pos hc5];rfl)
   ·intro hc5
    exact fin cs[i] (by unfold absZ;rw [if_neg hc5];omega)
  ·intro hc2
   have hi2:i=cs.length:=by omega
   subst hi2
   rw [List.take_length]
   exact ⟨rfl,rfl⟩
theorem By.drop {l:List Nat} (h:By l) (n:Nat):By (l.drop n):=fun x hx=>h x (List.mem_of_mem_drop hx)
theorem By.take {l:List Nat} (h:By l) (n:Nat):By (l.take n):=fun x hx=>h x (List.mem_of_mem_take hx)
def Cb (s:HS):Prop:=∀c∈s.cs, -1≤c∧c≤32768
theorem zerosZ_cb (l:List Nat) (s:HS) (h:Cb s):Cb (zerosZ l s):=by
 have ap:∀n,Cb ⟨s.pos+2,s.ok&&okZ l s.pos 2,s.cs++List.replicate n 0⟩:=by
  intro n c hc
  rcases List.mem_append.mp hc with h1|h1
  ·exact h c h1
  ·have:=(List.mem_replicate.mp h1).2;omega
 fun_induction zerosZ l s with
 | case1 s h1 h2=>exact ap _
 | case2 s h1 h2 ih=>exact ih (ap _) (by
   intro n c hc
   rcases List.mem_append.mp hc with h1|h1
   ·exact ap _ c h1
   ·have:=(List.mem_replicate.mp h1).2;omega)
 | case3 s h1=>exact h
theorem readZ_cb (l:List Nat) (s:HS) (left:Nat) (s':HS) (left':Nat) (h:Cb s) (hl:left≤32768) (he:readZ l s left=some (s',left')):Cb s':=by
 fun_induction readZ l s left with
 | case1 s left h1 h2=>cases he
 | case2 s left h1 h2 ih =>
  have hv:=valZ_le l s.pos (left+1) (by omega)
  have hst:Cb (stepZ l s left):=by
   intro c hc
   rcases List.mem_append.mp hc with h3|h3
   ·exact h c h3
   ·simp at h3;omega
  refine ih ?_ ?_ he
  ·unfold nextZ
   split
   ·exact zerosZ_cb l _ hst
   ·exact hst
  ·unfold leftZ;split<;>omega
 | case3 s left h1=>injection he with he;injection he with h2 h3;exact h2▸h
theorem fseRead_bnd {l:List Nat} {cs:List Int} {t:Nat} {rest:List Nat} (h:fseRead l=some (cs,t,rest)):(∀c∈cs, -1≤c∧c≤32768)∧cs.length≤256∧5≤t∧t≤15∧∃n,rest=l.drop n:=by
 unfold fseRead at h
 split at h
 ·cases h
 ·split at h
  ·cases h
  ·rename_i s left hr
   split at h
   ·rename_i hc
    injection h with h
    injection h with h1 h2
    injection h2 with h2 h3
    subst h1 h2 h3
    have hp:2^(tkZ l 0 4+5)≤2^15:=Nat.pow_le_pow_right (by omega) (by omega)
    exact ⟨readZ_cb l _ _ _ _ (by intro c hc;cases hc) (by omega) hr,hc.2.2,by omega,by omega,_,rfl⟩
   ·cases h
theorem statesZ_bnd {cs:List Int} {t:Nat} {tab:List Cell3} (hc:∀c∈cs, -1≤c∧c≤32768) (hn:cs.length≤256) (ht:t=5∨t=6) (h:statesZ cs t=some tab) :
  tab.length=2^t∧∀c∈tab,c.1<256∧c.2.1≤6 ∧ -4294967296≤c.2.2∧c.2.2<4294967296:=by
 have hsz:2^t=32∨2^t=64:=by rcases ht with rfl|rfl<;>simp
 unfold statesZ at h
 split at h
 ·split at h
  ·cases h
  ·rename_i f a hsp
   split at h
   ·rename_i hpos
    injection h with h
    subst h
    refine ⟨by simp,?_⟩
    intro c hcm
    obtain ⟨i,hi,rfl⟩:=List.mem_map.mp hcm
    have hi:i<2^t:=List.mem_range.mp hi
    have h1:=hpos i hi
    rcases spreadZ_laid hsp i with h2|⟨sy,hsy,hf,_⟩
    ·omega
    ·unfold cellZ
     simp only
     have hk:kZ cs f i≤32768+64:=by
      unfold kZ
      have h3:=cntZ_le f (f i) i
      have h4:absZ (cs.getD (f i).toNat 0)≤32768:=by
       rw [hf,Int.toNat_natCast,getD_Z hsy]
       have:=hc _ (List.getElem_mem hsy)
       unfold absZ;split<;>omega
      omega
     have h6:2^(t-(kZ cs f i).log2)≤2^6:=Nat.pow_le_pow_right (by omega) (by omega)
     have h7:kZ cs f i*2^(t-(kZ cs f i).log2)≤(32768+64)*2^6:=Nat.mul_le_mul hk h6
     refine ⟨by omega,by omega,by omega,by omega⟩
   ·cases h
 ·cases h
def rawZ (l:List Nat) (i:Nat):Nat:=(if i%2=0 then l.getD (1+i/2) 0/16 else l.getD (1+i/2) 0)%16
def weightsZ (l:List Nat):Option (List Nat×Nat) :=
 match l with
 | []=>none
 | n::r =>
  if 128≤n then
   if l.length<1+(n-127+1)/2 then none else some ((List.range (n-127)).map (rawZ l),1+(n-127+1)/2)
  else if l.length<1+n then none else
   match fseRead (r.take n) with
   | none=>none
   | some (cs,t,rest)=>if 6<t then none else
    match statesZ cs t with
    | none=>none
    | some tab=>match twoStatesZ rest tab t 255 with
     | none=>none
     | some out=>some (out,1+n)
def nints (l:List Nat):List Value:=ints (l.map fun (x:Nat)=>(x:Int))
theorem slc_lh {w:World} {s:Sl} {x y:Int} {n m:Nat} {κ:Sl→PT} (hx:x=n) (hy:y=m) (hn:n≤m) (hm:m≤s.c) (h:κ ⟨slA s.a n s.c 1,m-n,s.c-n⟩ w):slc 1 s (some x) (some y) none κ w :=
 ⟨n,m,s.c,rfl,⟨hy,hm⟩,⟨hx,hn⟩,h⟩
theorem Arr.sub {k:IntKind} {w:World} {s:Sl} {l:List Nat} (h:Arr k w s l) (n m:Nat) (hn:n≤m) (hm:m≤l.length):Arr k w ⟨slA s.a n s.c 1,m-n,s.c-n⟩ ((l.drop n).take (m-n)):=by
 have h1:=h.drop n (by omega)
 have hl:=h.len
 have hc:=h.cap
 refine ⟨by simp;omega,by simp only;omega,?_,?_⟩
 ·intro e;rw [h1.non e];simp
 ·intro b hb i hi
  simp only [List.length_take,List.length_drop] at hi
  rw [h1.get b hb i (by simp;omega)]
  simp
theorem nints_app (l:List Nat) (x:Nat):nints (l ++ [x])=nints l ++ [.int .i64 (x:Nat)]:=by simp [nints,ints]
theorem c43 {w:World} {s:Sl} {l:List Nat} {K:Sl×Int×Bool→PT} (hb:Arr .u8 w s l) (hl:By l) (hn:l.length<2^40)
  (h0:weightsZ l=none→∀w' s' n',Fm w w' []→K (s',n',false) w')
  (h1:∀ws used,weightsZ l=some (ws,used)→∀w' s',Fm w w' []→Vec 1 w' s' (nints ws)→(∀x∈s'.bs,w.heap.size≤x)→K (s',((used:Nat):Int),true) w') :
  callP Tryd.prog 43 #[.slice s.a s.l s.c] [.c .S,.c (.I .i64),.c .B] K w:=by
 apply q43_ok
 unfold q43
 have hlen:=hb.len
 refine cnd_d ?_ ?_
 ·intro hc
  have:l = []:=List.length_eq_zero_iff.mp (by omega)
  subst this
  exact h0 rfl w _ _ (Fm.refl w _)
 ·intro hc
  cases l with
  | nil=>simp at hlen;omega
  | cons n r =>
  have ⟨hn256,hr⟩:=hl.cons
  have hcap:=hb.cap
  refine hb.ldk 0 rfl (by simp) ?_
  intro p hp
  refine ld_c (t := .I .u8) (x:=(n:Int)) hp ?_
  refine joinP_id ?_
  unfold q43_X6
  have en:IntKind.i64.wrap ((n:Nat):Int)=(n:Int):=wI64 (by omega) (by omega)
  simp only [en]
  simp only [weightsZ] at h0 h1
  refine cnd_d ?_ ?_
  ·intro hc2
   have hc2:128≤n:=by omega
   rw [if_pos hc2] at h0 h1
   have e1:IntKind.i64.wrap ((n:Int)-127)=((n-127:Nat):Int):=by rw [wI64 (by omega) (by omega)];omega
   have e2:IntKind.i64.wrap (((n-127:Nat):Int)+1)=((n-127+1:Nat):Int):=by rw [wI64 (by omega) (by omega)];omega
   have e3:quoI .i64 ((n-127+1:Nat):Int) 2=(((n-127+1)/2:Nat):Int):=quoI_nat .i64 _ 2 (by simp only [IntKind.bits];omega)
   have e4:IntKind.i64.wrap (1+(((n-127+1)/2:Nat):Int))=((1+(n-127+1)/2:Nat):Int):=by rw [wI64 (by omega) (by omega)];omega
   simp only [e1,e2,e3,e4]
   refine ⟨by decide,cnd_d ?_ ?_⟩
   ·intro hc3
    rw [if_pos (by omega)] at h0
    exact h0 rfl w _ _ (Fm.refl w _)
   ·intro hc3
    rw [if_neg (by omega)] at h1
    refine ⟨fun x w'=>Fm w w' []∧Vec 1 w' x (nints ((List.range (n-127)).map (rawZ (n::r))))∧∀y∈x.bs,w.heap.size≤y,?_,?_⟩
    ·rintro x w' ⟨F,hv,hx⟩
     unfold q43_J2
     simp only [en,e1,e2,e3,e4]
     exact ⟨by decide,h1 _ _ rfl w' x F hv hx⟩
    ·refine ⟨fun x w'=>∃i:Nat,x.2=(i:Int)∧i≤n-127∧Fm w w' []∧Vec 1 w' x.1 (nints ((List.range i).map (rawZ (n::r))))∧∀y∈x.1.bs,w.heap.size≤y,fun x _=>n-127-x.2.toNat,⟨0,rfl,Nat.zero_le _,Fm.refl w _,Vec.nil,by simp [Sl.bs]⟩,?_⟩
     rintro ⟨xs,xi⟩ w' ⟨i,hxi,hi,F,hv,hx⟩
     simp only at hxi hv hx
     subst hxi
     unfold q43_L1
     simp only [en,e1]
     refine cnd_d ?_ ?_
     ·intro hc4
      have hi2:i<n-127:=by omega
      have e5:quoI .i64 ((i:Nat):Int) 2=((i/2:Nat):Int):=quoI_nat .i64 _ 2 (by simp only [IntKind.bits];omega)
      have e6:IntKind.i64.wrap (1+((i/2:Nat):Int))=((1+i/2:Nat):Int):=by rw [wI64 (by omega) (by omega)];omega
      have e7:Int.tmod ((i:Nat):Int) 2=((i%2:Nat):Int):=rfl
      simp only [e5,e6,e7]
      have hil:1+i/2<(n::r).length:=by omega
      refine ⟨by decide,(hb.fr F (by simp)).ldk (1+i/2) rfl hil ?_⟩
      intro p hp
      have hxb:(n::r)[1+i/2]<256:=hl _ (List.getElem_mem hil)
      have hrw:rawZ (n::r) i=(if i%2=0 then (n::r)[1+i/2]/16 else (n::r)[1+i/2])%16:=by unfold rawZ;rw [getD_in hil]
      generalize (n::r)[1+i/2]=x at *
      refine ld_c (t := .I .u8) (x:=(x:Int)) hp ?_
      have ex:IntKind.i64.wrap ((x:Nat):Int)=(x:Int):=wI64 (by omega) (by omega)
      have e8:quoI .i64 ((x:Nat):Int) 16=((x/16:Nat):Int):=quoI_nat .i64 _ 16 (by simp only [IntKind.bits];omega)
      simp only [ex,e8]
      refine joinP_id ?_
      have hlv:=hv.len
      simp only [nints,ints_len,List.length_map,List.length_range,Nat.mul_one] at hlv
      have fin:∀y:Nat,y=(if i%2=0 then x/16 else x)→q43_J0 (xs,(i:Int)) (fun s' w'_1=>(∃i:Nat,s'.2=(i:Int)∧i≤n-127∧Fm w w'_1 []∧Vec 1 w'_1 s'.1 (nints ((List.range i).map (rawZ (n::r))))∧∀y∈s'.1.bs,w.heap.size≤y)∧n-127-s'.2.toNat<n-127-(i:Int).toNat) (y:Int) w':=by
       intro y hy
       unfold q43_J0
       simp only
       refine ⟨by decide,app_1 hv rfl (by omega) ?_⟩
       intro s2 w2 hv2 F2 hb2
       rw [wI64 (by omega) (by omega)]
       have F02:Fm w w2 []:=F.trans F2 (by intro z hz;right;exact hx z hz)
       refine ⟨⟨i+1,by simp,by omega,F02,?_,?_⟩,by first|omega|(simp only;omega)⟩
       ·rw [List.range_succ,List.map_append,List.map_cons,List.map_nil,nints_app,hrw, ←hy]
        exact hv2
       ·intro z hz
        rcases hb2 z hz with h|h
        ·exact hx z h
        ·have:=F.size;omega
      refine ⟨by decide,cnd_d ?_ ?_⟩
      ·intro hc5
       exact ⟨by decide,fin (x/16) (by rw [if_pos (by omega)])⟩
      ·intro hc5
       exact fin x (by rw [if_neg (by omega)])
     ·intro hc4
      have hi2:i=n-127:=by omega
      rw [hi2] at hv
      exact ⟨F,hv,hx⟩
  ·intro hc2
   have hc2:¬128≤n:=by omega
   rw [if_neg hc2] at h0 h1
   unfold q43_J5
   have e1:IntKind.i64.wrap (1+(n:Int))=((1+n:Nat):Int):=by rw [wI64 (by omega) (by omega)];omega
   simp only [e1]
   refine cnd_d ?_ ?_
   ·intro hc3
    rw [if_pos (by omega)] at h0
    exact h0 rfl w _ _ (Fm.refl w _)
   ·intro hc3
    rw [if_neg (by omega)] at h0 h1
    refine slc_lh (n:=1) (m:=1+n) rfl rfl (by omega) (by omega) ?_
    have hA:=hb.sub 1 (1+n) (by omega) (by omega)
    rw [List.drop_one,List.tail_cons,Nat.add_sub_cancel_left] at hA
    simp only [Nat.add_sub_cancel_left]
    have hnl:(r.take n).length<2^40:=by
     rw [List.length_take]
     rw [List.length_cons] at hn
     omega
    refine c49 (s:=⟨slA s.a 1 s.c 1,n,s.c-1⟩) (l:=r.take n) hA (hr.take n) hnl ?_ ?_
    ·intro hf w1 F1
     rw [hf] at h0
     exact ⟨fun _=>h0 rfl w1 _ _ F1,by simp⟩
    ·intro cs t rest hf w1 c rs F1 hcv hcb hrA hrb
     rw [hf] at h0 h1
     simp only at h0 h1
     obtain ⟨b1,b2,b3,b4,nd,b5⟩:=fseRead_bnd hf
     refine ⟨by simp,fun _=>cnd_d ?_ ?_⟩
     ·intro hc4
      simp only at hc4
      rw [if_pos (by omega)] at h0
      exact h0 rfl w1 _ _ F1
     ·intro hc4
      simp only at hc4
      rw [if_neg (by omega)] at h0 h1
      have ht:t=5∨t=6:=by omega
      refine c57 hcv ht (by omega) (fun c hc=>by have:=b1 c hc;omega) ?_ ?_
      ·intro hst w2 F2
       rw [hst] at h0
       exact ⟨fun _=>h0 rfl w2 _ _ (F1.trans F2 (by simp)),by simp⟩
      ·intro tab hst w2 tb F2 htb hT
       rw [hst] at h0 h1
       simp only at h0 h1
       obtain ⟨hTl,hTb⟩:=statesZ_bnd b1 b2 ht hst
       have F02:Fm w w2 []:=F1.trans F2 (by simp)
       refine ⟨by simp,fun _ => ?_⟩
       have hrl:rest.length<2^40:=by
        rw [b5]
        simp only [List.length_drop,List.length_take]
        simp only [List.length_cons] at hn
        omega
       have hTl2:tab.length≤64:=by rcases ht with rfl|rfl<;>rw [hTl]<;>decide
       have hTl3:2^t≤tab.length:=by rw [hTl];exact Nat.le_refl _
       have ht16:t≤16:=by omega
       have hT20:tab.length≤2^20:=Nat.le_trans hTl2 (by decide)
       have hcb3:∀c∈tab,c.1<2^32∧c.2.1≤16 ∧ -4294967296≤c.2.2∧c.2.2<4294967296:=by
        intro c hc
        have:=hTb c hc
        exact ⟨Nat.lt_trans this.1 (by decide),by omega,this.2.2.1,this.2.2.2⟩
       have h255:255≤2^30:=by decide
       have hrB:By rest:=by rw [b5];exact (hr.take n).drop nd
       have conv:∀(w3:World) (s3:Sl) (l3:List Nat) (ok:Bool),Fm w w3 []→Arr .u8 w3 s3 l3→By l3→l3.length≤300 →
         (∀w' s',Fm w w' []→Vec 1 w' s' (nints l3)→(∀x∈s'.bs,w.heap.size≤x)→K (s',((1+n:Nat):Int),ok) w') →
         joinP (fun R20=>loopP (⟨none,0,0⟩,(0:Int)) (q43_L3 (s3,ok) R20)) (q43_J4 K (n:Int) (s3,ok)) w3:=by
        intro w3 s3 l3 ok F3 hA3 hB3 hl3 hk
        have hlen3:=hA3.len
        refine ⟨fun x w'=>Fm w w' []∧Vec 1 w' x (nints l3)∧∀y∈x.bs,w.heap.size≤y,?_,?_⟩
        ·rintro x w' ⟨F,hv,hx⟩
         unfold q43_J4
         simp only [e1]
         exact hk w' x F hv hx
        ·refine ⟨fun x w'=>∃i:Nat,x.2=(i:Int)∧i≤l3.length∧Fm w3 w' []∧Vec 1 w' x.1 (nints (l3.take i))∧∀y∈x.1.bs,w3.heap.size≤y,fun x _=>l3.length-x.2.toNat,⟨0,rfl,Nat.zero_le _,Fm.refl w3 _,Vec.nil,by simp [Sl.bs]⟩,?_⟩
         rintro ⟨xs,xi⟩ w' ⟨i,hxi,hi,F,hv,hx⟩
         simp only at hxi hv hx
         subst hxi
         unfold q43_L3
         simp only
         refine cnd_d ?_ ?_
         ·intro hc5
          have hi2:i<l3.length:=by omega
          refine (hA3.fr F (by simp)).ldk i rfl hi2 ?_
          intro p hp
          have hxb:l3[i]<256:=hB3 _ (List.getElem_mem hi2)
          refine ld_c (t := .I .u8) (x:=((l3[i]:Nat):Int)) hp ?_
          rw [wI64 (x:=((l3[i]:Nat):Int)) (by omega) (by omega)]
          have hlv:=hv.len
          simp only [nints,ints_len,List.length_map,List.length_take,Nat.mul_one] at hlv
          refine app_1 hv rfl (by omega) ?_
          intro s2 w2 hv2 F2 hb2
          rw [wI64 (by omega) (by omega)]
          refine ⟨⟨i+1,by simp,by omega,F.trans F2 (by intro z hz;right;exact hx z hz),?_,?_⟩,by first|omega|(simp only;omega)⟩
          ·rw [List.take_succ_eq_append_getElem hi2,nints_app]
           exact hv2
          ·intro z hz
           rcases hb2 z hz with h|h
           ·exact hx z h
           ·have:=F.size;omega
         ·intro hc5
          have hi2:i=l3.length:=by omega
          subst hi2
          rw [List.take_length] at hv
          have:=F3.size
          exact ⟨F3.trans F (by simp),hv,fun y hy=>by have:=hx y hy;omega⟩
       refine c60 (limit:=255) (hrA.fr F2 (by simp)) hrB hrl hT ht16 hTl3 hT20 h255 hcb3 ?_ ?_
       ·intro hts w3 s3 l3 F3 hA3 hB3 hl3
        rw [hts] at h0
        refine conv w3 s3 l3 false (F02.trans F3 (by simp)) hA3 hB3 (by omega) ?_
        intro w' s' F _ _
        exact h0 rfl w' s' _ F
       ·intro out hts w3 s3 F3 hA3 hB3 hbs
        rw [hts] at h1
        have hol:out.length≤300:=by
         have:=hA3.len
         have hh:∀(left:Int) (a b:Nat) (o res:List Nat),o.length≤255→twoZ rest tab 255 left a b o=some res→res.length≤255:=by
          intro left a b o res
          fun_induction twoZ rest tab 255 left a b o with
          | case1=>intro _ h;cases h
          | case2=>intro _ h;cases h
          | case3=>intro _ h;cases h
          | case4=>intro _ h;cases h
          | case5=>intro ho h;injection h with h;subst h;simp;omega
          | case6=>intro _ h;cases h
          | case7 left a b o hz c hca hlf hb ih=>intro ho h;exact ih (by simp;omega) h
         unfold twoStatesZ at hts
         split at hts
         ·cases hts
         ·split at hts
          ·have:=hh _ _ _ _ _ (by simp) hts;omega
          ·cases hts
        refine conv w3 s3 out true (F02.trans F3 (by simp)) hA3 hB3 hol ?_
        intro w' s' F hv hx
        exact h1 out (1+n) rfl w' s' F hv hx
def wOf (w:Nat):Nat:=if w=0 then 0 else 2^(w-1)
def wsum (ws:List Nat):Nat:=(ws.map wOf).sum
def lenF (longest:Nat) (ws:List Nat) (i:Nat):Int:=((if 0<ws.getD i 0 then longest+1-ws.getD i 0 else 0:Nat):Int)
def someZ (ws:List Nat):Nat:=(ws.map fun w=>if 0<w then 1 else 0).sum
def lastZ (ws:List Nat):Nat:=2^((wsum ws).log2+1)-wsum ws
def fullZ (ws:List Nat):List Nat:=ws ++ [(lastZ ws).log2+1]
def hlZ (l:List Nat):Option ((Nat→Int)×Nat) :=
 match weightsZ l with
 | none=>none
 | some (ws,used) =>
  if ws.length≤255∧(∀w∈ws,w≤12)∧wsum ws≠0∧(wsum ws).log2+1≤11∧lastZ ws=2^(lastZ ws).log2∧1<someZ (fullZ ws) then
   some (lenF ((wsum ws).log2+1) (fullZ ws),used)
  else none
theorem sum_take {f:Nat→Nat} {l:List Nat} {i:Nat} (h:i<l.length):((l.take (i+1)).map f).sum=((l.take i).map f).sum+f l[i]:=by
 rw [List.take_succ_eq_append_getElem h,List.map_append,List.sum_append]
 simp only [List.map_cons,List.map_nil,List.sum_cons,List.sum_nil,Nat.add_zero]
theorem sum_take_le (f:Nat→Nat) (l:List Nat) (M i:Nat) (h:∀c∈l,f c≤M):((l.take i).map f).sum≤i*M:=by
 induction i with
 | zero=>simp
 | succ i ih =>
  rw [Nat.succ_mul]
  by_cases hi:i<l.length
  ·rw [sum_take hi]
   have:=h _ (List.getElem_mem hi)
   omega
  ·rw [List.take_of_length_le (by omega)] at ih ⊢
   omega
theorem wOf_le {w:Nat} (h:w≤12):wOf w≤2048:=by
 unfold wOf
 split
 ·omega
 ·exact Nat.le_trans (Nat.pow_le_pow_right (by omega) (show w-1≤11 by omega)) (by decide)
theorem nints_len (l:List Nat):(nints l).length=l.length:=by simp [nints,ints]
theorem Vec.ldN {w:World} {s:Sl} {l:List Nat} {i:Int} (n:Nat) {κ:Addr→PT} (h:Vec 1 w s (nints l)) (hi:i=n) (hn:n<l.length) (hk:∀p,w.cell? p=some (.int .i64 (l[n]:Nat))→κ p w):ixS 1 s i κ w:=by
 refine Vec.ldI (l:=l.map fun (x:Nat)=>(x:Int)) n h hi (by simpa using hn) ?_
 intro p hp
 simp only [List.getElem_map] at hp
 exact hk p hp
theorem fullZ_lt {ws:List Nat} {i:Nat} (h:i<(fullZ ws).length) (hi:i<ws.length):(fullZ ws)[i]=ws[i]:=List.getElem_append_left hi
theorem fullZ_last {ws:List Nat} {i:Nat} (h:i<(fullZ ws).length) (hi:i=ws.length):(fullZ ws)[i]=(lastZ ws).log2+1:=by
 subst hi
 exact List.getElem_concat_length rfl _
theorem c15 {w:World} {s:Sl} {l:List Nat} {K:Sl×Int×Bool→PT} (hb:Arr .u8 w s l) (hl:By l) (hn:l.length<2^40)
  (h0:hlZ l=none→∀w' s' n',Fm w w' []→K (s',n',false) w')
  (h1:∀f used,hlZ l=some (f,used)→∀w' b,Fm w w' []→w.heap.size≤b→Blk w' b (arrC .i64 256 f)→K (⟨some ⟨b,0,none⟩,256,256⟩,((used:Nat):Int),true) w') :
  callP Tryd.prog 15 #[.slice s.a s.l s.c] [.c .S,.c (.I .i64),.c .B] K w:=by
 apply q15_ok
 unfold q15
 refine c43 hb hl hn ?_ ?_
 ·intro hw w1 s1 n1 F1
  unfold hlZ at h0
  rw [hw] at h0
  exact ⟨fun _=>h0 rfl w1 _ _ F1,by simp⟩
 ·intro ws used hw w1 s1 F1 hv hx
  unfold hlZ at h0 h1
  rw [hw] at h0 h1
  simp only at h0 h1
  have hlv:=hv.len
  rw [nints_len,Nat.mul_one] at hlv
  refine ⟨by simp,fun _=>cnd_d ?_ ?_⟩
  ·intro hc
   simp only at hc
   rw [if_neg (by omega)] at h0
   exact h0 rfl w1 _ _ F1
  ·intro hc
   simp only at hc
   have hw255:ws.length≤255:=by omega
   refine ⟨fun x w'=>x=(((used:Nat):Int),((wsum ws:Nat):Int))∧w'=w1∧∀w∈ws,w≤12,?_,?_⟩
   ·rintro x w' ⟨rfl,hww,hle12⟩
    have hww:=hww.symm
    subst hww
    have hsum:wsum ws≤255*2048:=by
     have:=sum_take_le wOf ws 2048 ws.length (fun c hc=>wOf_le (hle12 c hc))
     rw [List.take_length] at this
     exact Nat.le_trans this (Nat.mul_le_mul_right _ hw255)
    unfold q15_J5
    simp only
    refine cnd_d ?_ ?_
    ·intro hc2
     rw [if_neg (by intro hh;exact hh.2.2.1 (by omega))] at h0
     exact h0 rfl w1 _ _ F1
    ·intro hc2
     have hs0:wsum ws≠0:=by omega
     have hslog:=Nat.lt_log2_self (n:=wsum ws)
     have hsl2:=Nat.log2_self_le hs0
     have hlg19:(wsum ws).log2<20:=(Nat.log2_lt hs0).mpr (by omega)
     have hp20:2^((wsum ws).log2+1)≤2^20:=Nat.pow_le_pow_right (by omega) (by omega)
     have hlast0:0<lastZ ws:=by unfold lastZ;omega
     have hlast1:lastZ ws≤2^(wsum ws).log2:=by unfold lastZ;rw [Nat.pow_succ];omega
     refine c44 (by omega) (by omega) ?_
     have e1:IntKind.i64.wrap ((((wsum ws).log2:Nat):Int)+1)=(((wsum ws).log2+1:Nat):Int):=by rw [wI64 (by omega) (by omega)];omega
     have e2:shlI .i64 1 (((wsum ws).log2+1:Nat):Int)=((2^((wsum ws).log2+1):Nat):Int):=by
      have:=shlI_nat .i64 1 ((wsum ws).log2+1) (by simp only [IntKind.bits];omega) (by simp only [IntKind.bits];omega)
      rw [Nat.one_mul] at this;exact this
     have e3:IntKind.i64.wrap (((2^((wsum ws).log2+1):Nat):Int)-((wsum ws:Nat):Int))=((lastZ ws:Nat):Int):=by
      rw [wI64 (by omega) (by omega)];unfold lastZ;omega
     simp only [e1,e2,e3]
     refine ⟨by omega,cnd_d ?_ ?_⟩
     ·intro hc3
      rw [if_neg (by intro hh;have:=hh.2.2.2.1;omega)] at h0
      exact h0 rfl w1 _ _ F1
     ·intro hc3
      have hlong:(wsum ws).log2+1≤11:=by omega
      have hp10:2^(wsum ws).log2≤2^10:=Nat.pow_le_pow_right (by omega) (by omega)
      refine c44 hlast0 (by omega) ?_
      have hll:(lastZ ws).log2<11:=(Nat.log2_lt (by omega)).mpr (by omega)
      have e4:shlI .i64 1 (((lastZ ws).log2:Nat):Int)=((2^(lastZ ws).log2:Nat):Int):=by
       have hpl:2^(lastZ ws).log2≤2^11:=Nat.pow_le_pow_right (by omega) (by omega)
       have:=shlI_nat .i64 1 (lastZ ws).log2 (by simp only [IntKind.bits];omega) (by simp only [IntKind.bits];omega)
       rw [Nat.one_mul] at this;exact this
      rw [e4]
      refine ⟨by omega,cnd_nd ?_ ?_⟩
      ·intro hc4
       rw [if_neg (by intro hh;exact hc4 (by exact_mod_cast hh.2.2.2.2.1))] at h0
       exact h0 rfl w1 _ _ F1
      ·intro hc4
       refine c44 hlast0 (by omega) ?_
       have e5:IntKind.i64.wrap ((((lastZ ws).log2:Nat):Int)+1)=(((lastZ ws).log2+1:Nat):Int):=by rw [wI64 (by omega) (by omega)];omega
       simp only [e5]
       refine app_1 hv rfl (by omega) ?_
       intro s2 w2 hv2 F2 hb2
       rw [←nints_app] at hv2
       have hfull:ws ++ [(lastZ ws).log2+1]=fullZ ws:=rfl
       rw [hfull] at hv2
       have hfl:(fullZ ws).length=ws.length+1:=by simp [fullZ]
       have hlv2:=hv2.len
       rw [nints_len,Nat.mul_one,hfl] at hlv2
       have F02:Fm w w2 []:=F1.trans F2 (by intro x hx2;right;exact hx x hx2)
       refine mks1 (n:=256) rfl rfl (by omega) ?_
       intro w3 F3 hs3 B3
       have hv3:=hv2.fr F3 (by simp)
       have hsz2:=F02.size
       have hx3:∀x∈s2.bs,x<w2.heap.size:=hv2.lt
       refine ⟨fun x w'=>x=((someZ (fullZ ws):Nat):Int)∧Fm w w' []∧Blk w' w2.heap.size (arrC .i64 256 (lenF ((wsum ws).log2+1) (fullZ ws))),?_,?_⟩
       ·rintro x w' ⟨rfl,F,B⟩
        unfold q15_J4
        simp only
        by_cases hs:1<someZ (fullZ ws)
        ·rw [if_pos ⟨hw255,hle12,hs0,hlong,by exact_mod_cast hc4,hs⟩] at h1
         rw [show decide ((1:Int)<((someZ (fullZ ws):Nat):Int))=true by simp;omega]
         exact h1 _ _ rfl w' _ F hsz2 B
        ·rw [if_neg (by intro hh;exact hs hh.2.2.2.2.2)] at h0
         rw [show decide ((1:Int)<((someZ (fullZ ws):Nat):Int))=false by simp;omega]
         exact h0 rfl w' _ _ F
       ·have hfb:∀x∈fullZ ws,x≤12:=by
         intro x hx
         rcases List.mem_append.mp hx with h|h
         ·exact hle12 x h
         ·simp at h;omega
        refine ⟨fun x w'=>∃i:Nat,x=((((((fullZ ws).take i).map fun w=>if 0<w then 1 else 0).sum:Nat):Int),(i:Int))∧i≤(fullZ ws).length∧Fm w w' []∧Vec 1 w' s2 (nints (fullZ ws)) ∧
         Blk w' w2.heap.size (arrC .i64 256 fun j=>if j<i then lenF ((wsum ws).log2+1) (fullZ ws) j else 0),fun x _=>(fullZ ws).length-x.2.toNat,⟨0,by simp,Nat.zero_le _,F02.trans F3 (by simp),hv3,B3.congr (by simp)⟩,?_⟩
        rintro x w' ⟨i,rfl,hi,F,hvv,B⟩
        unfold q15_L3
        simp only
        refine cnd_d ?_ ?_
        ·intro hc5
         have hi2:i<(fullZ ws).length:=by omega
         have hst:=sum_take (f:=fun w=>if 0<w then 1 else 0) hi2
         have hsle:=sum_take_le (fun w=>if 0<w then 1 else 0) (fullZ ws) 1 i (by intro c _;split<;>omega)
         have hfi:=hfb _ (List.getElem_mem hi2)
         have hlenF:lenF ((wsum ws).log2+1) (fullZ ws) i=((if 0<(fullZ ws)[i] then (wsum ws).log2+1+1-(fullZ ws)[i] else 0:Nat):Int):=by unfold lenF;rw [getD_in hi2]
         refine joinP_id ?_
         refine hvv.ldN i rfl hi2 ?_
         intro p hp
         refine ld_c (t := .I .i64) (x:=(((fullZ ws)[i]:Nat):Int)) hp ?_
         generalize hsg:(((fullZ ws).take i).map fun w=>if 0<w then 1 else 0).sum=sg at *
         unfold q15_J2
         simp only
         rw [wI64 (x:=(i:Int)+1) (by omega) (by omega)]
         refine cnd_d ?_ ?_
         ·intro hc6
          have hi256:i<256:=by omega
          refine ixS1 rfl hi256 ?_
          refine st_b B (by rw [arrC_get hi256];rfl) rfl ?_
          have hsum2:(fullZ ws)[i]≤(wsum ws).log2+1+1:=by
           by_cases hiw:i<ws.length
           ·have hfe:(fullZ ws)[i]=ws[i]:=fullZ_lt hi2 hiw
            rw [hfe] at hc6 ⊢
            have hmem:wOf ws[i]≤wsum ws:=mem_le_sum (List.mem_map_of_mem (List.getElem_mem hiw))
            unfold wOf at hmem
            rw [if_neg (by omega)] at hmem
            have h5:2^(ws[i]-1)<2^((wsum ws).log2+1):=Nat.lt_of_le_of_lt hmem hslog
            have h6:=(Nat.pow_lt_pow_iff_right (a:=2) (by omega)).mp h5
            omega
           ·have hfe:(fullZ ws)[i]=(lastZ ws).log2+1:=fullZ_last hi2 (by omega)
            rw [hfe]
            have h5:(lastZ ws).log2≤(wsum ws).log2:=by
             have:=Nat.log2_self_le (n:=lastZ ws) (by omega)
             have h7:2^(lastZ ws).log2≤2^(wsum ws).log2:=Nat.le_trans this hlast1
             exact (Nat.pow_le_pow_iff_right (a:=2) (by omega)).mp h7
            omega
          rw [e1,wI64 (x:=(((wsum ws).log2+1:Nat):Int)+1) (by omega) (by omega),wI64 (x:=(((wsum ws).log2+1:Nat):Int)+1-_) (by omega) (by omega)]
          have B4:=B.setW (o:=i) (v := .int .i64 ((((wsum ws).log2+1:Nat):Int)+1-(((fullZ ws)[i]:Nat):Int))) (by rw [arrC_get hi256];rfl) (arrC_upd hi256)
          have F4:Fm w' (w'.setCell ⟨w2.heap.size,i,none⟩ (.int .i64 ((((wsum ws).log2+1:Nat):Int)+1-(((fullZ ws)[i]:Nat):Int)))) [w2.heap.size]:=(Fm.refl _ _).set (.inl (by simp))
          refine ⟨⟨i+1,?_,by omega,F.trans F4 (by intro x hx5;right;simp at hx5;omega),hvv.fr F4 ?_,B4.congr ?_⟩,by omega⟩
          ·rw [hst,if_pos (by omega),wI64 (by omega) (by omega)];simp
          ·intro x hx5
           have:=hx3 x hx5
           simp;omega
          ·congr 1
           funext j
           unfold updF
           simp only
           by_cases e:j=i
           ·subst e
            rw [if_pos rfl,if_pos (by omega),hlenF,if_pos (by omega)];omega
           ·rw [if_neg e]
            by_cases e2:j<i
            ·rw [if_pos e2,if_pos (by omega)]
            ·rw [if_neg e2,if_neg (by omega)]
         ·intro hc6
          refine ⟨⟨i+1,?_,by omega,F,hvv,B.congr ?_⟩,by omega⟩
          ·rw [hst,if_neg (by omega)];simp
          ·congr 1
           funext j
           by_cases e:j=i
           ·subst e
            rw [if_neg (by omega),if_pos (by omega),hlenF,if_neg (by omega)];rfl
           ·by_cases e2:j<i
            ·rw [if_pos e2,if_pos (by omega)]
            ·rw [if_neg e2,if_neg (by omega)]
        ·intro hc5
         have hi2:i=(fullZ ws).length:=by omega
         refine ⟨?_,F,B.congr ?_⟩
         ·rw [hi2,List.take_length];rfl
         ·congr 1
          funext j
          split
          ·rfl
          ·unfold lenF
           rw [getD_out (by omega)];rfl
   ·refine ⟨fun x w'=>w'=w1∧∃i:Nat,i≤ws.length∧x=(((used:Nat):Int),((((ws.take i).map wOf).sum:Nat):Int),(i:Int))∧∀j (h:j<ws.length),j<i→ws[j]≤12,fun x _=>ws.length-x.2.2.toNat,⟨rfl,0,Nat.zero_le _,rfl,by simp⟩,?_⟩
    rintro x w' ⟨rfl,i,hi,rfl,h12⟩
    unfold q15_L1
    simp only
    refine cnd_d ?_ ?_
    ·intro hc2
     have hi2:i<ws.length:=by omega
     refine joinP_id ?_
     refine hv.ldN i rfl hi2 ?_
     intro p hp
     refine ld_c (t := .I .i64) (x:=((ws[i]:Nat):Int)) hp ?_
     refine cnd_d ?_ ?_
     ·intro hc3
      rw [if_neg (by intro hh;have:=hh.2.1 _ (List.getElem_mem hi2);omega)] at h0
      exact h0 rfl w' _ _ F1
     ·intro hc3
      have hst:=sum_take (f:=wOf) hi2
      have hw12:ws[i]≤12:=by omega
      have hwo:=wOf_le hw12
      have hsle:((ws.take i).map wOf).sum≤i*2048:=by
       have:∀c∈ws.take i,wOf c≤2048:=by
        intro c hc
        obtain ⟨j,hj,rfl⟩:=List.mem_iff_getElem.mp hc
        simp only [List.length_take] at hj
        rw [List.getElem_take]
        exact wOf_le (h12 j (by omega) (by omega))
       have:=sum_take_le wOf (ws.take i) 2048 i this
       rw [List.take_take,Nat.min_self] at this
       exact this
      have hi3:i*2048≤255*2048:=Nat.mul_le_mul_right _ (by omega)
      have hnext:∀j (h:j<ws.length),j<i+1→ws[j]≤12:=by
       intro j hj hji
       by_cases e:j=i
       ·subst e;exact hw12
       ·exact h12 j hj (by omega)
      generalize hsg:((ws.take i).map wOf).sum=sg at *
      unfold q15_J0
      simp only
      rw [wI64 (x:=(i:Int)+1) (by omega) (by omega)]
      refine cnd_d ?_ ?_
      ·intro hc4
       have e1:IntKind.i64.wrap (((ws[i]:Nat):Int)-1)=((ws[i]-1:Nat):Int):=by rw [wI64 (by omega) (by omega)];omega
       have hwe:wOf ws[i]=2^(ws[i]-1):=by unfold wOf;rw [if_neg (by omega)]
       have e2:shlI .i64 1 ((ws[i]-1:Nat):Int)=((wOf ws[i]:Nat):Int):=by
        have:=shlI_nat .i64 1 (ws[i]-1) (by simp only [IntKind.bits];omega) (by simp only [IntKind.bits];omega)
        rw [Nat.one_mul] at this;rw [hwe];exact this
       rw [e1,e2,wI64 (by omega) (by omega)]
       exact ⟨by omega,⟨rfl,i+1,by omega,by rw [hst];simp,hnext⟩,by omega⟩
      ·intro hc4
       have hwe:wOf ws[i]=0:=by unfold wOf;rw [if_pos (by omega)]
       exact ⟨⟨rfl,i+1,by omega,by rw [hst,hwe];simp,hnext⟩,by omega⟩
    ·intro hc2
     have hi2:i=ws.length:=by omega
     refine ⟨?_,rfl,?_⟩
     ·rw [hi2,List.take_length];rfl
     ·intro x hx
      obtain ⟨j,hj,rfl⟩:=List.mem_iff_getElem.mp hx
      exact h12 j hj (by omega)
end Go.Sx
