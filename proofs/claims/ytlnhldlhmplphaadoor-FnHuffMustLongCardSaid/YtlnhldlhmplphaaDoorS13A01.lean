/- Lemmas for the proof: Z1 Z2 A B C1 C2 C3 C4 C5 C6 C7 C8. No conditions. -/
import Derived.Test.YtlnhldlhmplphaaDoorTie
import Derived.ProofKit
import Derived.OpenShut
import Derived.LaidMore
import Derived.LaidLaws
import Derived.Stop.Joined
import Derived.ReadAgain
import Derived.Tactics
import Derived.Still
import Derived.Laws.World
import Derived.Laws.Cells
import Derived.Laws.Tables
import Derived.IntWalk
import Derived.Test.YtlnhldlhmplphaaDoorProg
import Derived.KernelRfl
import Derived.LaidEql
import Derived.SevenTiedAt
set_option linter.unusedVariables false
set_option linter.unusedSimpArgs false
namespace Go.Sx
open Go Go.Proofs Go.ChangeShapes Go.WideShapes Go.ChangeAt Go.RowKit Go.Proofs.YtlnhldlhmplphaaDoor
set_option maxRecDepth 100000
theorem laid_get {P:Program} {W:World} {n:String} {d:DataW Unit} : ∀ {laid:List (String×DataW Unit)} {ps:List MemPlace},DataW.LaidVars P W laid ps→(n,d)∈laid →
  ∃g t cs fuel p,P.globalNamed n=some g∧(P.globals[g]?).map (·.type)=some t∧W.var? P n=some cs∧DataW.trod (fun _=>()) P W 0 (fun _=>true) false fuel t cs.toList=some (d,p)∧∀x∈MemPlace.row ⟨g,0,none⟩ cs.size++p,x∈ps
 | [],_,_,h=>by cases h
 | (n',d')::r,ps,h,hm=>by
  obtain ⟨g,t,cs,fuel,p,q,h1,h2,h3,h4,h5,rfl⟩:=h
  rcases List.mem_cons.mp hm with e|e
  ·injection e with e1 e2
   subst e1 e2
   exact ⟨g,t,cs,fuel,p,h1,h2,h3,h4,fun x hx=>List.mem_append_left _ hx⟩
  ·obtain ⟨g',t',cs',fuel',p',k1,k2,k3,k4,k5⟩:=laid_get h5 e
   exact ⟨g',t',cs',fuel',p',k1,k2,k3,k4,fun x hx=>List.mem_append_right _ (k5 x hx)⟩
theorem name160 (u:TypeId) (h:Tryd.prog.typeName? 3 u=some "*errors.errorString"):u=160 :=
 typeName_ptr_named (nm := "errors.errorString") (by rw [show "*" ++ "errors.errorString" = "*errors.errorString" by decide];kernel_rfl) (by kernel_rfl) (by decide) u (by rw [show "*" ++ "errors.errorString" = "*errors.errorString" by decide];exact h)
theorem cz162:Tryd.prog.cellsOf 162=1:=by kernel_rfl
theorem cz9:Tryd.prog.cellsOf 9=1:=by kernel_rfl
theorem uz9:Tryd.prog.underlying 9=some .string:=by kernel_rfl
theorem err_of_laid {W:World} {laid:List (String×DataW Unit)} {n:String} {g:Nat} {text:List UInt8} (h:laidMet Tryd.prog laid W) (hm:(n,.iface "*errors.errorString" (.ptr (.agg [.lit (.string text)])))∈laid) (hg:Tryd.prog.globalNamed n=some g) (ht:(Tryd.prog.globals[g]?).map (·.type)=some 68) :
  ∃a c T,W.cell? ⟨g,0,none⟩=some (.iface 160 (.pointer (some a)))∧W.heap[a.block]? = some (.cells c T (0,0)):=by
 obtain ⟨ps,hv,hnd,hrows⟩:=h
 obtain ⟨g0,t0,cs0,f0,p0,hg0,ht0,hv0,hd0,hps⟩:=laid_get hv hm
 obtain rfl:=Option.some.inj (hg.symm.trans hg0)
 obtain rfl:=Option.some.inj (ht.symm.trans ht0)
 obtain ⟨l0⟩:=cs0
 have ok0:∀u v,l0 = [.iface u v]→Value.okWide Tryd.prog W .any 0 u v:=fun u v e=>by
  subst e
  exact (hrows g 0 (hps _ (by simp [MemPlace.row]))).2 u v (by simpa using World.var?_cell hg hv0 0)
 obtain ⟨a0,s0,rfl,hc0,hs0,hz0,rfl⟩:=errorString_of_trod Tryd.underlying68 name160 Tryd.underlying160 Tryd.underlying162 rfl rfl uz9 cz162 cz9 hd0 ok0
 obtain ⟨c0,t0,hb0⟩:=(hrows a0.block a0.off (hps _ (by simp [MemPlace.row]))).1
 exact ⟨a0,c0,t0,by simpa using World.var?_cell hg hv0 0,hb0⟩
theorem nums_of_laid {W:World} {laid:List (String×DataW Unit)} {n:String} {g t e m:Nat} {k:IntKind} {zs:List Int} (h:laidMet Tryd.prog laid W) (hm:(n,.agg (zs.map fun z => .lit (.int k z)))∈laid) (hg:Tryd.prog.globalNamed n=some g) (ht:(Tryd.prog.globals[g]?).map (·.type)=some t)
  (hut:Tryd.prog.underlying t=some (.array m e)) (hue:Tryd.prog.underlying e=some (.int k)) (hce:Tryd.prog.cellsOf e=1) (hl:zs.length=m):∀r,r<m→W.cell? ⟨g,r,none⟩=some (.int k (zs.getD r 0)):=by
 intro r hr
 obtain ⟨ps,hv,_,_⟩:=h
 obtain ⟨g0,t0,cs,fuel,p,hg0,ht0,hv0,hd,_⟩:=laid_get hv hm
 obtain rfl:=Option.some.inj (hg.symm.trans hg0)
 obtain rfl:=Option.some.inj (ht.symm.trans ht0)
 obtain ⟨xs,m',_,ex,_,hxl,hel⟩:=DataW.trod_array hut hd
 have hE:=hel r hr
 rw [hce,Nat.mul_one,List.getElem?_eq_getElem (by omega)] at hE
 obtain ⟨z,e1,e2,_⟩:=DataW.trod_int hue hE
 have e3:(xs.map (·.1))=zs.map fun z => .lit (.int k z):=(DataW.agg.inj (Prod.mk.inj ex).1).symm
 have e4:(xs.map (·.1))[r]? = (zs.map fun z=>(DataW.lit (.int k z):DataW Unit))[r]? := by rw [e3]
 rw [List.getElem?_map,List.getElem?_map,List.getElem?_eq_getElem (by omega:r<xs.length),List.getElem?_eq_getElem (by omega:r<zs.length),e2] at e4
 have hz:z=zs.getD r 0:=by
  simp only [Option.map_some,Option.some.injEq,DataW.lit.injEq,Lit.int.injEq,true_and] at e4
  rw [e4,List.getD_eq_getElem?_getD,List.getElem?_eq_getElem (by omega:r<zs.length)];rfl
 rw [World.var?_cell hg hv0 r, ←hz]
 have:cs.toList[r]? = some (.int k z):=by
  have h0:((cs.toList.drop r).take 1)[0]? = some (.int k z):=by rw [e1];rfl
  simpa using h0
 simpa using this
def rtbZ:List Int := [0,473195,504333,520860,550000,700000,750000,830000]
theorem own0:ownKnob Tryd.prog.godebug=none:=by kernel_rfl
theorem kids0:Kids Tryd.prog (· < Tryd.prog.types.size):=kids_rows (by kernel_rfl) (by kernel_rfl)
theorem full0:∀t e,t<Tryd.prog.types.size→Tryd.prog.underlying t=some (.slice e)→0<Tryd.prog.cellsOf e:=slices_full_of Tryd.prog (by kernel_rfl)
section
variable {H:Type} {enc:TypeId×Value→H} {W W':World}
theorem carryAll (hh:∀b,b<W.heap.size→W'.heap[b]? = W.heap[b]?) {sp:Nat→Bool} {held:Bool} : ∀ {ts:List TypeId} {vs:List Value} {ds:List (DataW H)} {ps:List MemPlace},DataW.TrodAll enc Tryd.prog W 0 sp held ts vs ds ps→DataW.TrodAll enc Tryd.prog W' 0 sp held ts vs ds ps
 | [],[],[],_,h=>h
 | _::_,_::_,_::_,_,⟨p,q,h1,h2,e⟩=>by
  obtain ⟨n,hn⟩:=h1
  refine ⟨p,q,⟨n,DataW.trod_carry n _ _ _ hn ?_⟩,carryAll hh h2,e⟩
  intro x hx
  have hlt:=DataW.trod_lt n _ _ _ hn x hx
  cases x with
  | cell b off =>
   show W'.cell? _=W.cell? _
   unfold World.cell?
   simp only [hh b hlt]
  | map b=>exact hh b hlt
theorem readAgain (hh:∀b,b<W.heap.size→W'.heap[b]? = W.heap[b]?) {ts:List TypeId} {vs:List Value} {ds:List (DataW H)} {ps:List MemPlace} (hT:∀t∈ts,t<Tryd.prog.types.size) (h:DataW.TrodAll enc Tryd.prog W 0 (fun _=>true) true ts vs ds ps) {sp:Nat→Bool} (hs:∀p∈ps,sp p.block=true) :
  DataW.TrodAll enc Tryd.prog W' 0 sp true ts vs ds ps:=carryAll hh (DataW.TrodAll.respare kids0 full0 hT h hs)
theorem kept_of (hos:W'.os=W.os) (hout:W'.output=W.output) (hh:∀b,b<W.heap.size→W'.heap[b]? = W.heap[b]?) (may:MemPlace→Prop):W.keptBut W' may:=by
 refine ⟨hos,hout,?_⟩
 intro i hi
 rw [hh i hi]
 cases hw:W.heap[i]? with
 | none=>trivial
 | some o=>cases o<;>simp
theorem post_law {f:Func} {s:ChangeSpec} {args:Array Value} {ds:List (DataW H)} {before:List MemPlace} (hsv:s.vars = []) (hrt:f.resultTypes = #[4]) (hts:∀t∈f.params.toList,t<Tryd.prog.types.size)
  (hres:(s.fn H (ds ++ [])).results = [.lit (.bool true)]) (hargs:(s.fn H (ds ++ [])).args=ds) (hvars:(s.fn H (ds ++ [])).vars = [])
  (hW:DataW.Whole enc Tryd.prog f.params.toList s.vars false W args.toList ds [] before) (hos:W'.os=W.os) (hout:W'.output=W.output) (hsz:W.heap.size≤W'.heap.size) (hh:∀b,b<W.heap.size→W'.heap[b]? = W.heap[b]?) :
  s.post enc Tryd.prog f false true false false W args (.bool true) W':=by
 have hW0:=hW
 obtain ⟨p,q,hA,hV,rfl,hfz,_⟩:=hW
 rw [hsv] at hV
 have hq:q = []:=hV
 subst hq
 refine ⟨ds,[],p ++ [],[],p,[],hW0,?_,?_,?_,kept_of hos hout hh _,fun h=>by cases h⟩
 ·rw [hrt,hres]
  exact trodAll_mk1 (shut_bool Tryd.underlying4 true)
 ·rw [hargs]
  refine readAgain hh hts hA ?_
  intro x hx
  have:=hA.lt x hx
  simpa using this
 ·rw [hvars,hsv];rfl
end
end Go.Sx
namespace Go.Sx
open Go
abbrev PT:=World→Prop
def F:PT:=fun _=>False
def nz (o:Option Addr) (κ:Addr→PT):PT:=fun w=>∃p,o=some p∧κ p w
structure Sl where
 a:Option Addr
 l:Nat
 c:Nat
def IntKind.same:IntKind→IntKind→Bool
 | .i8,.i8 | .i16,.i16 | .i32,.i32 | .i64,.i64 | .u8,.u8 | .u16,.u16 | .u32,.u32 | .u64,.u64=>true
 | _,_=>false
inductive CT where
 | I (k:IntKind)
 | B
 | S
 | P
 | V
@[reducible] def CT.ty:CT→Type
 | .I _=>Int
 | .B=>Bool
 | .S=>Sl
 | .P=>Option Addr
 | .V=>Value
def CT.mk:(t:CT)→t.ty→Value
 | .I k,n => .int k n
 | .B,x => .bool x
 | .S,s => .slice s.a s.l s.c
 | .P,o => .pointer o
 | .V,x=>x
inductive Tg where
 | c (t:CT)
 | m (ts:List CT)
 | a (n:Nat)
 | q
@[reducible] def tyL:List CT→Type
 | []=>Unit
 | t::r=>match r with
  | []=>t.ty
  | u::r=>t.ty×tyL (u::r)
def mkL:(ts:List CT)→tyL ts→List Value
 | [],_ => []
 | [t],x => [t.mk x]
 | t::u::r,x=>t.mk x.1::mkL (u::r) x.2
@[reducible] def Tg.ty:Tg→Type
 | .c t=>t.ty
 | .m ts=>tyL ts
 | .a _=>Array Value
 | .q=>Addr
def Tg.mk:(g:Tg)→g.ty→Value
 | .c t,x=>t.mk x
 | .m ts,x => .agg ⟨mkL ts x⟩
 | .a _,cs => .agg cs
 | .q,x => .pointer (some x)
def unC:(t:CT)→Value→(t.ty→PT)→PT
 | .I k,v,κ=>match v with
  | .int k' n=>cond (IntKind.same k k') (κ n) F
  | _=>F
 | .B,v,κ=>match v with
  | .bool x=>κ x
  | _=>F
 | .S,v,κ=>match v with
  | .slice a l c=>κ ⟨a,l,c⟩
  | _=>F
 | .P,v,κ=>match v with
  | .pointer o=>κ o
  | _=>F
 | .V,v,κ=>κ v
def unL:(ts:List CT)→List Value→(tyL ts→PT)→PT
 | [],l,κ=>match l with
  | []=>κ ()
  | _::_=>F
 | [t],l,κ=>match l with
  | [v]=>unC t v κ
  | _=>F
 | t::u::r,l,κ=>match l with
  | v::vs=>unC t v fun x=>unL (u::r) vs fun xs=>κ (x,xs)
  | []=>F
def unT:(g:Tg)→Value→(g.ty→PT)→PT
 | .c t,v,κ=>unC t v κ
 | .m ts,v,κ=>match v with
  | .agg cs=>unL ts cs.toList κ
  | _=>F
 | .a _,v,κ=>match v with
  | .agg cs=>κ cs
  | _=>F
 | .q,v,κ=>match v with
  | .pointer o=>nz o κ
  | _=>F
@[reducible] def resT:List Tg→Type
 | []=>Unit
 | g::r=>match r with
  | []=>g.ty
  | h::r=>g.ty×resT (h::r)
def resL:(gs:List Tg)→resT gs→List Value
 | [],_ => []
 | [g],x => [g.mk x]
 | g::h::r,x=>g.mk x.1::resL (h::r) x.2
def resMk (gs:List Tg) (x:resT gs):Value :=
 match resL gs x with
 | [v]=>v
 | l => .tuple ⟨l⟩
inductive Ent where
 | v (x:Value)
 | lb (b:Bool)
 | pt (a:Addr)
 | tp (gs:List Tg) (x:resT gs)
def Ent.val:Ent→Value
 | .v x=>x
 | .lb b => .bool b
 | .pt a => .pointer (some a)
 | .tp gs x => .tuple ⟨resL gs x⟩
def Tg.ent:(g:Tg)→g.ty→Ent
 | .q,x => .pt x
 | .c t,x => .v (t.mk x)
 | .m ts,x => .v (.agg ⟨mkL ts x⟩)
 | .a _,cs => .v (.agg cs)
def nthE:(gs:List Tg)→resT gs→Nat→Option Ent
 | [],_,_=>none
 | [g],x,i=>cond (Nat.beq i 0) (some (g.ent x)) none
 | g::h::r,x,i=>match i with
  | 0=>some (g.ent x.1)
  | i+1=>nthE (h::r) x.2 i
abbrev Env:=List (Nat×Ent)
def lk:Env→Nat→Option Ent
 | [],_=>none
 | (s,e)::r,t=>cond (Nat.beq s t) (some e) (lk r t)
def evE (env:Env):Operand→Option Ent
 | .tmp t=>lk env t
 | .const v=>match v with
  | .bool b=>some (.lb b)
  | v=>some (.v v)
 | .global g=>some (.pt ⟨g,0,none⟩)
 | .func f=>some (.v (.func (.func f) #[] #[]))
def put (d:Option Tmp) (e:Ent) (env:Env):Env :=
 match d with
 | some d=>(d,e)::env
 | none=>env
@[reducible] def absT:List (Nat×Tg)→Type
 | []=>Unit
 | x::r=>match r with
  | []=>x.2.ty
  | y::r=>x.2.ty×absT (y::r)
def absMk:(L:List (Nat×Tg))→absT L→Env
 | [],_ => []
 | [x],v => [(x.1,x.2.ent v)]
 | x::y::r,v=>(x.1,x.2.ent v.1)::absMk (y::r) v.2
def unE (g:Tg) (e:Option Ent) (κ:g.ty→PT):PT :=
 match e with
 | some e=>match g,κ with
  | .q,κ=>match e with
   | .pt a=>κ a
   | .v x=>unT .q x κ
   | _=>F
  | g,κ=>unT g e.val κ
 | none=>F
def absGet:(L:List (Nat×Tg))→Env→(absT L→PT)→PT
 | [],_,κ=>κ ()
 | [x],env,κ=>unE x.2 (lk env x.1) κ
 | x::y::r,env,κ=>unE x.2 (lk env x.1) fun v=>absGet (y::r) env fun vs=>κ (v,vs)
def pickE:List Nat→Env→Env
 | [],_ => []
 | s::r,env=>match lk env s with
  | some e=>(s,e)::pickE r env
  | none=>pickE r env
inductive Tr (α:Type) where
 | e
 | n (l:Tr α) (k:Nat) (v:α) (r:Tr α)
def Tr.get {α:Type} : Tr α→Nat→Option α
 | .e,_=>none
 | .n l k v r,t=>cond (Nat.blt t k) (l.get t) (cond (Nat.blt k t) (r.get t) (some v))
inductive TK where
 | other
 | bl
 | str
 | ptr (elem:TypeId)
 | ifc
 | sl (elem:TypeId)
 | arr (n:Nat) (elem:TypeId)
 | st (fs:List (Nat×Nat×Bool))
structure TyI where
 tg:Tg
 k:TK
 size:Nat
 bytes:Nat
 zero:Option (List Value)
structure Ctx where
 P:Program
 T:Tr TyI
 R:Tr (List Tg)
def ld (t:CT) (p:Addr) (κ:t.ty→PT):PT:=fun w=>∃x,w.cell? p=some (t.mk x)∧κ x w
def ldL:(ts:List CT)→Addr→Nat→(tyL ts→PT)→PT
 | [],_,_,κ=>κ ()
 | [t],p,i,κ=>ld t (p.add i) κ
 | t::u::r,p,i,κ=>ld t (p.add i) fun x=>ldL (u::r) p (i+1) fun xs=>κ (x,xs)
def ldA (n:Nat) (p:Addr) (κ:Array Value→PT):PT:=fun w=>∃cs:Array Value,cs.size=n∧(∀i,i<n→w.cell? (p.add i)=cs[i]?)∧κ cs w
def ldT:(g:Tg)→Addr→(g.ty→PT)→PT
 | .c t,p,κ=>ld t p κ
 | .m ts,p,κ=>ldL ts p 0 κ
 | .a n,p,κ=>ldA n p κ
 | .q,_,_=>F
def one:Value→Bool
 | .agg _=>false
 | .tuple _=>false
 | _=>true
def canSt (w:World) (p:Addr):Prop:=(∃u,w.cell? p=some u)∧w.frozen? p=false
def st (p:Addr) (v:Value) (κ:PT):PT:=fun w=>one v=true∧canSt w p∧κ (w.setCell p v)
def stL (p:Addr):Nat→List Value→PT→PT
 | _,[],κ=>κ
 | i,v::r,κ=>st (p.add i) v (stL p (i+1) r κ)
def setL (w:World) (p:Addr):Nat→List Value→World
 | _,[]=>w
 | i,v::r=>setL (w.setCell (p.add i) v) p (i+1) r
def stA (n:Nat) (p:Addr) (cs:Array Value) (κ:PT):PT:=fun w =>
 cs.size=n∧(∀i v,cs[i]? = some v→one v=true∧canSt w (p.add i))∧κ (setL w p 0 cs.toList)
def stT (g:Tg) (p:Addr) (v:Value) (κ:PT):PT :=
 match g with
 | .c _=>st p v κ
 | .m ts=>match v with
  | .agg cs=>cond (Nat.beq ts.length cs.toList.length) (stL p 0 cs.toList κ) F
  | _=>F
 | .a n=>match v with
  | .agg cs=>stA n p cs κ
  | _=>F
 | .q=>F
def nw (cs:List Value) (T:TypeId) (κ:Addr→PT):PT:=fun w=>κ ⟨w.heap.size,0,none⟩ (w.alloc (.cells ⟨cs⟩ T))
def nwA (cs:Array Value) (T:TypeId) (κ:Addr→PT):PT:=fun w=>κ ⟨w.heap.size,0,none⟩ (w.alloc (.cells cs T))
def cnd (b:Bool) (x y:PT):PT:=fun w=>(b=true→x w)∧(b=false→y w)
def req (c:Prop) (κ:PT):PT:=fun w=>c∧κ w
def drw (κ:PT):PT:=fun w=>κ w.drew
def ixS (sz:Nat) (s:Sl) (i:Int) (κ:Addr→PT):PT:=fun w=>∃b,s.a=some b∧∃k:Nat,i=k∧k<s.l∧κ (b.add (k*sz)) w
def ixA (sz n:Nat) (p:Addr) (i:Int) (κ:Addr→PT):PT:=fun w=>∃k:Nat,i=k∧k<n∧κ (p.add (k*sz)) w
def ixV (t:CT) (cs:Array Value) (n:Nat) (i:Int) (κ:t.ty→PT):PT:=fun w=>∃k:Nat,i=k∧k<n∧∃x,cs[k]? = some (t.mk x)∧κ x w
def ixStr (s:ByteArray) (i:Int) (κ:Int→PT):PT:=fun w=>∃k:Nat,i=k∧∃h:k<s.size,κ (s[k].toNat:Int) w
def slA (a:Option Addr) (l m sz:Nat):Option Addr:=if m=l then a else a.map (·.add (l*sz))
def bOk (f:Option Int) (n top dflt:Nat):Prop:=match f with
 | some x=>x=n∧n≤top
 | none=>n=dflt
def slc (sz:Nat) (s:Sl) (lo hi mx:Option Int) (κ:Sl→PT):PT:=fun w=>∃l h m:Nat,bOk mx m s.c s.c∧bOk hi h m s.l∧bOk lo l h 0 ∧
 κ ⟨slA s.a l m sz,h-l,m-l⟩ w
def slcA (sz n:Nat) (p:Addr) (lo hi mx:Option Int) (κ:Sl→PT):PT:=fun w=>∃l h m:Nat,bOk mx m n n∧bOk hi h m n∧bOk lo l h 0 ∧
 κ ⟨some (if m=l then p else p.add (l*sz)),h-l,m-l⟩ w
def zrep (zs:List Value) (n:Nat):Array Value:=(Array.range (n*zs.length)).map fun i=>(zs.toArray)[i%zs.length]!
def mks (zs:List Value) (T:TypeId) (bytes:Nat) (l c:Int) (κ:Sl→PT):PT:=fun w=>∃ln cn:Nat,l=ln∧c=cn∧ln≤cn∧cn*bytes≤2^47 ∧
 κ ⟨some ⟨w.heap.size,0,none⟩,ln,cn⟩ (w.alloc (.cells (zrep zs cn) T))
def app (zs:List Value) (T:TypeId) (bytes:Nat) (s x:Sl) (κ:Sl→PT):PT:=fun w =>
 (s.l+x.l)*bytes≤2^46 ∧
 (s.l+x.l≤s.c→∃xs,xs.length=x.l*zs.length∧(∀b,x.a=some b→∀i,i<xs.length→w.cell? (b.add i)=xs[i]?)∧(x.a=none→xs = [])∧(∀v∈xs,one v=true) ∧
  match s.a with
  | some a=>(∀i,i<xs.length→canSt w ((a.add (s.l*zs.length)).add i))∧κ ⟨some a,s.l+x.l,s.c⟩ (setL w (a.add (s.l*zs.length)) 0 xs)
  | none=>κ ⟨none,s.l+x.l,s.c⟩ w) ∧
 (s.c<s.l+x.l→∃os xs,os.length=s.l*zs.length∧(∀b,s.a=some b→∀i,i<os.length→w.cell? (b.add i)=os[i]?)∧(s.a=none→os = []) ∧
  xs.length=x.l*zs.length∧(∀b,x.a=some b→∀i,i<xs.length→w.cell? (b.add i)=xs[i]?)∧(x.a=none→xs = []) ∧
  ∀c,s.l+x.l≤c→c<2^63→κ ⟨some ⟨w.heap.size,0,none⟩,s.l+x.l,c⟩ (w.drew.alloc (.cells (os.toArray++xs.toArray++zrep zs (c-(s.l+x.l))) T)))
def appZ (zs:List Value) (T:TypeId) (bytes:Nat) (s:Sl) (i:Int) (κ:Sl→PT):PT:=fun w=>∃n:Nat,i=n ∧
 (s.l+n)*bytes≤2^46∧s.c<s.l+n∧∃os,os.length=s.l*zs.length∧(∀b,s.a=some b→∀i,i<os.length→w.cell? (b.add i)=os[i]?)∧(s.a=none→os = []) ∧
  ∀c,s.l+n≤c→c<2^63→κ ⟨some ⟨w.heap.size,0,none⟩,s.l+n,c⟩ (w.drew.alloc (.cells (os.toArray++zrep zs n++zrep zs (c-(s.l+n))) T))
def cpy (sz:Nat) (d s:Sl) (κ:Int→PT):PT:=fun w=>∃xs:List Value,xs.length=(Nat.min s.l d.l)*sz ∧
 (∀b,s.a=some b→∀i,i<xs.length→w.cell? (b.add i)=xs[i]?)∧(s.a=none→xs = [])∧(∀v∈xs,one v=true) ∧
 match d.a with
 | some a=>(∀i,i<xs.length→canSt w (a.add i))∧κ (Nat.min s.l d.l:Nat) (setL w a 0 xs)
 | none=>κ (Nat.min s.l d.l:Nat) w
def callP (P:Program) (f:FuncId) (args:Array Value) (gs:List Tg) (κ:resT gs→PT):PT:=fun w =>
 Calls P f args w fun e w'=>∃r,e = .returned (resMk gs r)∧κ r w'
def hasFn (P:Program) (f:FuncId):Bool:=match P.funcs[f]? with
 | some fn=>fn.name != "runtime.NumGoroutine" && fn.body.isSome
 | none=>false
def callV (P:Program) (v:Value) (args:Array Value) (gs:List Tg) (κ:resT gs→PT):PT:=fun w =>
 ∃f fs cs,v = .func (.func f) fs cs∧hasFn P f=true∧callP P f ((fs++args)++cs) gs κ w
def joinP {α:Type} (X:(α→PT)→PT) (Y:α→PT):PT:=fun w=>∃R:α→PT,(∀s w',R s w'→Y s w')∧X R w
def loopP {α:Type} (s0:α) (B:α→(α→PT)→PT):PT:=fun w=>∃(I:α→World→Prop) (μ:α→World→Nat),I s0 w∧∀s w,I s w→B s (fun s' w'=>I s' w'∧μ s' w'<μ s w) w
def kp (fs:List (Addr×Value)) (κ:PT):PT:=fun w=>(∀f∈fs,w.cell? f.1=some f.2)∧κ w
def shlI (k:IntKind) (a b:Int):Int:=k.wrap (a*2^(min b.toNat k.bits))
def shrI (k:IntKind) (a b:Int):Int:=a.fdiv (2^(min b.toNat k.bits))
def andI (k:IntKind) (a b:Int):Int:=k.wrap (BitVec.ofInt k.bits a &&& BitVec.ofInt k.bits b).toNat
def orI (k:IntKind) (a b:Int):Int:=k.wrap (BitVec.ofInt k.bits a ||| BitVec.ofInt k.bits b).toNat
def xorI (k:IntKind) (a b:Int):Int:=k.wrap (BitVec.ofInt k.bits a ^^^ BitVec.ofInt k.bits b).toNat
def andNotI (k:IntKind) (a b:Int):Int:=k.wrap (BitVec.ofInt k.bits a &&& ~~~ (BitVec.ofInt k.bits b)).toNat
def quoI (k:IntKind) (a b:Int):Int:=k.wrap (a.tdiv b)
def maxI (a b:Int):Int:=if b>a then b else a
def minI (a b:Int):Int:=if b<a then b else a
def isNil:Value→Bool
 | .nilIface=>true
 | _=>false
def isIf:Value→Bool
 | .nilIface=>true
 | .iface .. => true
 | _=>false
def withE (env:Env) (x:Operand) (κ:Ent→PT):PT:=match evE env x with
 | some e=>κ e
 | none=>F
def withV (env:Env) (x:Operand) (κ:Value→PT):PT:=match evE env x with
 | some e=>κ e.val
 | none=>F
def withVs (env:Env):List Operand→(List Value→PT)→PT
 | [],κ=>κ []
 | x::r,κ=>withV env x fun v=>withVs env r fun vs=>κ (v::vs)
def withO (env:Env) (x:Option Operand) (κ:Option Int→PT):PT:=match x with
 | none=>κ none
 | some x=>withV env x fun v=>match v with
  | .int _ n=>κ (some n)
  | _=>F
def withT (C:Ctx) (t:TypeId) (κ:TyI→PT):PT:=match C.T.get t with
 | some y=>κ y
 | none=>F
def withP (env:Env) (x:Operand) (κ:Addr→PT):PT:=withE env x fun e=>match e with
 | .pt a=>κ a
 | .v v=>match v with
  | .pointer o=>nz o κ
  | _=>F
 | _=>F
def listSet (l:List Value):Nat→List Value→List Value
 | _,[]=>l
 | i,v::r=>listSet (l.set i v) (i+1) r
def fillE (place:Nat→Option (Nat×Nat×Bool)):List (Nat×Value)→List Value→(List Value→PT)→PT
 | [],l,κ=>κ l
 | (i,v)::r,l,κ=>match place i with
  | none=>F
  | some (o,z,g)=>match g with
   | false=>cond (one v&&Nat.beq z 1) (cond (Nat.blt o l.length) (fillE place r (l.set o v) κ) F) F
   | true=>match v with
    | .agg cs=>cond (Nat.beq cs.toList.length z) (cond (Nat.ble (o+z) l.length) (fillE place r (listSet l o cs.toList) κ) F) F
    | _=>F
def withParts (env:Env):List (Nat×Operand)→(List (Nat×Value)→PT)→PT
 | [],κ=>κ []
 | (i,x)::r,κ=>withV env x fun v=>withParts env r fun vs=>κ ((i,v)::vs)
def binE (op:BinOp) (x y:Value) (κ:Ent→PT):PT :=
 match op with
 | .shl=>match x,y with
  | .int k a,.int _ b=>req (0≤b) (κ (.v (.int k (shlI k a b))))
  | _,_=>F
 | .shr=>match x,y with
  | .int k a,.int _ b=>req (0≤b) (κ (.v (.int k (shrI k a b))))
  | _,_=>F
 | .add=>match x,y with
  | .int k a,.int k' b=>cond (IntKind.same k k') (κ (.v (.int k (k.wrap (a+b))))) F
  | _,_=>F
 | .sub=>match x,y with
  | .int k a,.int k' b=>cond (IntKind.same k k') (κ (.v (.int k (k.wrap (a-b))))) F
  | _,_=>F
 | .mul=>match x,y with
  | .int k a,.int k' b=>cond (IntKind.same k k') (κ (.v (.int k (k.wrap (a*b))))) F
  | _,_=>F
 | .quo=>match x,y with
  | .int k a,.int k' b=>cond (IntKind.same k k') (req (b≠0) (κ (.v (.int k (quoI k a b))))) F
  | _,_=>F
 | .rem=>match x,y with
  | .int k a,.int k' b=>cond (IntKind.same k k') (req (b≠0) (κ (.v (.int k (a.tmod b))))) F
  | _,_=>F
 | .and=>match x,y with
  | .int k a,.int k' b=>cond (IntKind.same k k') (κ (.v (.int k (andI k a b)))) F
  | _,_=>F
 | .or=>match x,y with
  | .int k a,.int k' b=>cond (IntKind.same k k') (κ (.v (.int k (orI k a b)))) F
  | _,_=>F
 | .xor=>match x,y with
  | .int k a,.int k' b=>cond (IntKind.same k k') (κ (.v (.int k (xorI k a b)))) F
  | _,_=>F
 | .andNot=>match x,y with
  | .int k a,.int k' b=>cond (IntKind.same k k') (κ (.v (.int k (andNotI k a b)))) F
  | _,_=>F
 | .lss=>match x,y with
  | .int k a,.int k' b=>cond (IntKind.same k k') (κ (.v (.bool (decide (a<b))))) F
  | _,_=>F
 | .leq=>match x,y with
  | .int k a,.int k' b=>cond (IntKind.same k k') (κ (.v (.bool (decide (a≤b))))) F
  | _,_=>F
 | .gtr=>match x,y with
  | .int k a,.int k' b=>cond (IntKind.same k k') (κ (.v (.bool (decide (b<a))))) F
  | _,_=>F
 | .geq=>match x,y with
  | .int k a,.int k' b=>cond (IntKind.same k k') (κ (.v (.bool (decide (b≤a))))) F
  | _,_=>F
 | _=>F
def eqE (C:Ctx) (t:TypeId) (x y:Value) (κ:Bool→PT):PT:=fun w =>
 ∃b,(do eqGuard .eql t (.tmp 0) (.tmp 0) x y;Go.binOp .eql t x y:Sem Value).run C.P w = .ok (.bool b) w∧κ b w
def eqlE (C:Ctx) (neg cst cx:Bool) (t:TypeId) (x y:Value) (κ:Ent→PT):PT:=withT C t fun ty=>match ty.tg with
 | .c g=>match g with
  | .I _=>match x,y with
   | .int k a,.int k' b=>cond (IntKind.same k k') (κ (.v (.bool (cond neg (!decide (a=b)) (decide (a=b)))))) F
   | _,_=>F
  | .B=>match ty.k with
   | .bl=>match x,y with
    | .bool a,.bool b=>κ (.v (.bool (cond neg (!(a==b)) (a==b))))
    | _,_=>F
   | _=>F
  | .S=>match ty.k with
   | .sl _=>match cst with
    | true=>match x,y with
     | .slice a _ _,.slice none _ _=>κ (.v (.bool (cond neg (!a.isNone) a.isNone)))
     | _,_=>F
    | false=>F
   | _=>F
  | .P=>match ty.k with
   | .ptr _=>match x,y with
    | .pointer o,.pointer none=>κ (.v (.bool (cond neg (!o.isNone) o.isNone)))
    | _,_=>F
   | _=>F
  | .V=>match ty.k with
   | .ifc=>match cst with
    | true=>match y with
     | .nilIface=>req (isIf x=true) (κ (.v (.bool (cond neg (!isNil x) (isNil x)))))
     | _=>F
    | false=>cond (neg || cx) F (eqE C t x y fun b=>κ (.v (.bool b)))
   | _=>F
 | _=>F
def fldE (l:List Value) (o z:Nat) (g:Bool) (κ:Ent→PT):PT :=
 match g with
 | false=>match l[o]? with
  | some v=>κ (.v v)
  | none=>F
 | true=>cond (Nat.ble (o+z) l.length) (κ (.v (.agg ⟨(l.drop o).take z⟩))) F
def Tg.isAgg:Tg→Bool
 | .m _=>true
 | .a _=>true
 | _=>false
def callE (C:Ctx) (c:Call) (env:Env) (κ:Ent→PT):PT :=
 match c.callee with
 | .builtin b=>match b with
  | .len=>match c.args.toList,c.argTypes.toList with
   | [x],[t]=>withT C t fun ty=>match ty.k with
    | .sl _=>withV env x fun v=>match v with
     | .slice _ l _=>κ (.v (.int .i64 l))
     | _=>F
    | _=>F
   | _,_=>F
  | .cap=>match c.args.toList,c.argTypes.toList with
   | [x],[t]=>withT C t fun ty=>match ty.k with
    | .sl _=>withV env x fun v=>match v with
     | .slice _ _ n=>κ (.v (.int .i64 n))
     | _=>F
    | _=>F
   | _,_=>F
  | .max=>match c.args.toList with
   | [x,y]=>withV env x fun v=>withV env y fun u=>match v,u with
    | .int k a,.int _ b=>κ (.v (.int k (maxI a b)))
    | _,_=>F
   | _=>F
  | .min=>match c.args.toList with
   | [x,y]=>withV env x fun v=>withV env y fun u=>match v,u with
    | .int k a,.int _ b=>κ (.v (.int k (minI a b)))
    | _,_=>F
   | _=>F
  | .append=>match c.args.toList,c.argTypes.toList with
   | [x,y],[t,u]=>withT C t fun ty=>match ty.k with
    | .sl e=>withT C e fun te=>match te.zero with
     | some zs=>cond (Nat.ble 1 te.bytes&&Nat.ble te.bytes 1000000&&match C.T.get u with
       | some tu=>(match tu.k with
        | .sl _=>true
        | _=>false)
       | none=>false) (withV env x fun v=>withV env y fun u=>match v,u with
      | .slice a l c,.slice a' l' c'=>app zs e te.bytes ⟨a,l,c⟩ ⟨a',l',c'⟩ fun s=>κ (.v (.slice s.a s.l s.c))
      | _,_=>F) (cond (Nat.ble 1 te.bytes&&Nat.ble te.bytes 1000000&&match C.T.get u with
       | some tu=>(match tu.tg with
        | .c g=>(match g with
         | .I .i64=>true
         | _=>false)
        | _=>false)
       | none=>false) (withV env x fun v=>withV env y fun u=>match v,u with
      | .slice a l c,.int .i64 n=>appZ zs e te.bytes ⟨a,l,c⟩ n fun s=>κ (.v (.slice s.a s.l s.c))
      | _,_=>F) F)
     | none=>F
    | _=>F
   | _,_=>F
  | .copy=>match c.args.toList,c.argTypes.toList with
   | [x,y],[t,_]=>withT C t fun ty=>match ty.k with
    | .sl e=>withT C e fun te=>withV env x fun v=>withV env y fun u=>match v,u with
      | .slice a l c,.slice a' l' c'=>cpy te.size ⟨a,l,c⟩ ⟨a',l',c'⟩ fun n=>κ (.v (.int .i64 n))
      | _,_=>F
    | _=>F
   | _,_=>F
  | _=>F
 | .value f=>match f with
  | .func f=>match C.R.get f with
   | some gs=>withVs env c.args.toList fun vs=>callP C.P f vs.toArray gs fun r=>κ (match gs,r with
    | [],_ => .v (.tuple #[])
    | [g],r=>g.ent r
    | g::h::gs,r => .tp (g::h::gs) r)
   | none=>F
  | _=>F
 | _=>F
def mxOk (hi mx:Option Operand) (κ:PT):PT:=match mx with
 | none=>κ
 | some _=>match hi with
  | some _=>κ
  | none=>F
def isCst:Operand→Bool
 | .const _=>true
 | _=>false
def opE (C:Ctx) (o:Op) (env:Env) (κ:Ent→PT):PT :=
 match o with
 | .move x=>withE env x κ
 | .assign x=>withE env x κ
 | .pick c a b=>withE env c fun e=>match e with
  | .lb t=>match t with
   | true=>withE env a κ
   | false=>withE env b κ
  | .v v=>match v with
   | .bool x=>cnd x (withE env a κ) (withE env b κ)
   | _=>F
  | _=>F
 | .alloc t=>withT C t fun y=>match y.zero with
  | some zs=>nw zs t fun p=>κ (.pt p)
  | none=>F
 | .box t x=>withV env x fun v=>withT C t fun y=>match y.tg with
  | .c _=>cond (one v) (nw [v] t fun p=>κ (.pt p)) F
  | .m _=>match v with
   | .agg cs=>nw cs.toList t fun p=>κ (.pt p)
   | _=>F
  | .a _=>match v with
   | .agg cs=>nwA cs t fun p=>κ (.pt p)
   | _=>F
  | .q=>F
 | .build t ps=>withParts env ps.toList fun vs=>withT C t fun y=>match y.zero with
  | some zs=>match y.k with
   | .st fs=>fillE (fun i=>fs[i]?) vs zs fun l=>κ (.v (.agg ⟨l⟩))
   | .arr _ e=>withT C e fun te=>fillE (fun i=>some (i*te.size,te.size,te.tg.isAgg)) vs zs fun l=>κ (.v (.agg ⟨l⟩))
   | _=>F
  | none=>F
 | .buildSlice t n ps=>withParts env ps.toList fun vs=>withT C t fun y=>match y.k with
  | .sl e=>withT C e fun te=>match te.zero with
   | some zs=>cond (Nat.ble (n*te.size) 1000000) (fillE (fun i=>some (i*te.size,te.size,te.tg.isAgg)) vs ((List.replicate n zs).flatten) fun l =>
     nw l e fun p=>κ (.v (.slice (some p) n n))) F
   | none=>F
  | _=>F
 | .load t a=>withP env a fun p=>withT C t fun y=>ldT y.tg p fun x=>κ (y.tg.ent x)
 | .store t a x=>withP env a fun p=>withV env x fun v=>withT C t fun y=>stT y.tg p v (κ (.v undef))
 | .nilCheck x=>withP env x fun p=>κ (.pt p)
 | .binOp op t x y _=>withV env x fun v=>withV env y fun u=>match op with
  | .eql=>eqlE C false (isCst y) (isCst x) t v u κ
  | .neq=>eqlE C true (isCst y) (isCst x) t v u κ
  | op=>binE op v u κ
 | .unOp op _ x=>withE env x fun e=>match op with
  | .not=>match e with
   | .lb b=>κ (.lb (!b))
   | .v v=>match v with
    | .bool b=>κ (.v (.bool (!b)))
    | _=>F
   | _=>F
  | .neg=>match e.val with
   | .int k n=>κ (.v (.int k (k.wrap (0-n))))
   | _=>F
  | .xor=>match e.val with
   | .int k n=>κ (.v (.int k (xorI k (if k.signed then -1 else k.max) n)))
   | _=>F
  | _=>F
 | .convert s t x=>withT C s fun _=>withV env x fun v=>withT C t fun y=>match y.tg with
  | .c g=>match g with
   | .I k=>match v with
    | .int _ n=>κ (.v (.int k (k.wrap n)))
    | _=>F
   | _=>F
  | _=>F
 | .sliceToArrayPointer t x=>withV env x fun v=>withT C t fun y=>match y.k with
  | .arr n _=>match v with
   | .slice a l _=>req (n≤l) (κ (.v (.pointer a)))
   | _=>F
  | _=>F
 | .makeInterface t x=>withV env x fun v=>withT C t fun y=>match y.k with
  | .str=>κ (.v (.iface t v))
  | .ptr _=>κ (.v (.iface t v))
  | _=>F
 | .makeFunc fn a b=>withVs env a.toList fun va=>withVs env b.toList fun vb=>κ (.v (.func fn va.toArray vb.toArray))
 | .makeSlice t l c=>withV env l fun v=>withV env c fun u=>withT C t fun y=>match y.k with
  | .sl e=>withT C e fun te=>match te.zero with
   | some zs=>cond (Nat.ble 1 te.bytes) (match v,u with
    | .int _ l,.int _ c=>mks zs e te.bytes l c fun s=>κ (.v (.slice s.a s.l s.c))
    | _,_=>F) F
   | none=>F
  | _=>F
 | .slice t x lo hi mx=>withT C t fun y=>match y.k with
  | .sl e=>withT C e fun te=>withV env x fun v=>match v with
   | .slice a l c=>mxOk hi mx (withO env lo fun lo=>withO env hi fun hi=>withO env mx fun mx=>slc te.size ⟨a,l,c⟩ lo hi mx fun s=>κ (.v (.slice s.a s.l s.c)))
   | _=>F
  | .arr n e=>withT C e fun te=>withP env x fun p=>mxOk hi mx (withO env lo fun lo=>withO env hi fun hi=>withO env mx fun mx=>slcA te.size n p lo hi mx fun s=>κ (.v (.slice s.a s.l s.c)))
  | _=>F
 | .fieldAddr t x f=>withT C t fun y=>match y.k with
  | .st fs=>match fs[f]? with
   | some (o,z,_)=>match z with
    | 0=>F
    | _+1=>withP env x fun p=>κ (.pt (p.add o))
   | none=>F
  | _=>F
 | .field t x f=>withT C t fun y=>match y.k with
  | .st fs=>match fs[f]? with
   | some (o,z,g)=>withV env x fun v=>match v with
    | .agg cs=>fldE cs.toList o z g κ
    | _=>F
   | none=>F
  | _=>F
 | .indexAddr t x i=>withT C t fun y=>withV env i fun vi=>match vi with
  | .int _ n=>match y.k with
   | .sl e=>withT C e fun te=>withV env x fun v=>match v with
    | .slice a l c=>ixS te.size ⟨a,l,c⟩ n fun p=>κ (.pt p)
    | _=>F
   | .arr m e=>withT C e fun te=>withP env x fun p=>ixA te.size m p n fun p=>κ (.pt p)
   | _=>F
  | _=>F
 | .index t x i=>withV env i fun vi=>match vi with
  | .int _ n=>withT C t fun y=>match y.k with
   | .str=>withV env x fun v=>match v with
    | .string s=>ixStr s n fun k=>κ (.v (.int .u8 k))
    | _=>F
   | .arr m e=>withV env x fun v=>match v with
    | .agg cs=>withT C e fun te=>match te.tg with
     | .c g=>ixV g cs m n fun x=>κ (.v (g.mk x))
     | _=>F
    | _=>F
   | _=>F
  | _=>F
 | .extract t i=>withE env t fun e=>match e with
  | .tp gs x=>match nthE gs x i with
   | some e=>κ e
   | none=>F
  | .v v=>match v with
   | .tuple vs=>match vs.toList[i]? with
    | some v=>κ (.v v)
    | none=>F
   | _=>F
  | _=>F
 | .call c=>callE C c env κ
 | _=>F
def wl (C:Ctx):Op→Bool
 | .binOp op t _ y _=>match op with
  | .eql=>isCst y || (match C.T.get t with
   | some y=>(match y.tg with
    | .c g=>(match g with
     | .V=>false
     | _=>true)
    | _=>false)
   | none=>false)
  | _=>true
 | .move _ | .assign _ | .pick .. | .load .. | .nilCheck _ | .unOp .. | .convert .. | .sliceToArrayPointer .. | .makeInterface .. | .makeFunc .. | .slice .. | .fieldAddr .. | .field ..
 | .indexAddr .. | .index .. | .extract .. | .build .. => true
 | .call c=>match c.callee with
  | .builtin b=>match b with
   | .len | .cap | .max | .min=>true
   | _=>false
  | _=>false
 | _=>false
def opV (C:Ctx) (V:Option (List Tg)) (o:Op) (env:Env) (κ:Ent→PT):PT :=
 match V with
 | none=>opE C o env κ
 | some gs=>match o with
  | .call c=>match c.callee with
   | .value f=>withV env f fun v=>withVs env c.args.toList fun vs=>callV C.P v vs.toArray gs fun r=>κ (match gs,r with
    | [],_ => .v (.tuple #[])
    | [g],r=>g.ent r
    | g::h::gs,r => .tp (g::h::gs) r)
   | _=>F
  | _=>F
structure Hint where
 J:Tr (List (Nat×Tg)×List Nat)
 V:Tr (List Tg)
def opH (C:Ctx) (H:Hint) (o:Oper) (env:Env) (κ:Ent→PT):PT :=
 match o.dst with
 | some d=>opV C (H.V.get d) o.op env κ
 | none=>opE C o.op env κ
def gdE (full:List Oper) (o:Oper) (env:Env) (yes no:Env→PT):PT :=
 match o.guard with
 | none=>yes env
 | some (j,want)=>match full[j]? with
  | none=>F
  | some oj=>match oj.dst with
   | none=>F
   | some d=>match lk env d with
    | some e=>match e with
     | .lb b=>cond (Bool.beq' b want) (yes env) (no env)
     | .v v=>match v with
      | .bool x=>cnd x (cond want (yes ((d,.lb true)::env)) (no ((d,.lb true)::env))) (cond want (no ((d,.lb false)::env)) (yes ((d,.lb false)::env)))
      | .tuple _=>no env
      | _=>F
     | _=>F
    | none=>F
where Bool.beq':Bool→Bool→Bool
 | true,true=>true
 | false,false=>true
 | _,_=>false
def seqE (C:Ctx) (H:Hint) (full:List Oper):List Oper→Env→(Env→PT)→PT
 | [],env,κ=>κ env
 | o::r,env,κ=>gdE full o env (fun env=>opH C H o env fun e=>seqE C H full r (put o.dst e env) κ) (fun env=>seqE C H full r (put o.dst (.v undef) env) κ)
def isW (C:Ctx) (ops:Array Oper) (i:Nat):Bool:=match ops[i]? with
 | some o=>wl C o.op
 | none=>false
def plan (C:Ctx) (ops:Array Oper):Nat→Array Bool→Option (List Nat)
 | 0,listed=>match Region.ready .any ops listed with
  | []=>some []
  | _=>none
 | f+1,listed =>
  match (Region.ready .any ops listed).find? (isW C ops) with
  | some i=>cond (Region.free .any ops listed i) (match plan C ops f (listed.setIfInBounds i true) with
   | some l=>some (i::l)
   | none=>none) none
  | none=>match Region.ready .any ops listed with
   | [i]=>match plan C ops f (listed.setIfInBounds i true) with
    | some l=>some (i::l)
    | none=>none
   | _=>none
def descs (i:Nat):List Oper→Nat→List Nat→List Nat
 | [],_,acc=>acc
 | o::r,k,acc=>descs i r (k+1) (cond (o.after.toList.any fun e=>Region.binds .any e&&(Nat.beq e.on i || acc.any (Nat.beq e.on))) (k::acc) acc)
abbrev Fc:=List Nat×(Addr×Value)
def keep (j:Nat):List Fc→List Fc
 | [] => []
 | f::r=>cond (f.1.any (Nat.beq j)) (keep j r) (f::keep j r)
def tagF (d:List Nat):List (Addr×Value)→List Fc
 | [] => []
 | f::r=>(d,f)::tagF d r
def bare:List Fc→List (Addr×Value)
 | [] => []
 | f::r=>f.2::bare r
def cellsOf:(g:Tg)→Addr→g.ty→List (Addr×Value)
 | .c t,p,x => [(p,t.mk x)]
 | .m ts,p,x=>go p 0 (mkL ts x)
 | .a _,p,cs=>go p 0 cs.toList
 | .q,_,_ => []
where go (p:Addr):Nat→List Value→List (Addr×Value)
 | _,[] => []
 | i,v::r=>(p.add i,v)::go p (i+1) r
def kpE (fs:List (Addr×Value)) (κ:PT):PT:=match fs with
 | []=>κ
 | f::fs=>kp (f::fs) κ
def drwE (C:Ctx) (H:Hint) (full:List Oper):List Nat→List Fc→Env→(Env→PT)→PT
 | [],_,env,κ=>κ env
 | i::r,fs,env,κ=>match full[i]? with
  | none=>F
  | some o=>gdE full o env (fun env=>match o.op with
    | .load t a=>withP env a fun p=>withT C t fun y=>ldT y.tg p fun x =>
      drwE C H full r (tagF (descs i full 0 []) (cellsOf y.tg p x)++fs) (put o.dst (y.tg.ent x) env) κ
    | op=>cond (wl C op) (opE C op env fun e=>drwE C H full r fs (put o.dst e env) κ)
      (opH C H o env fun e=>kpE (bare (keep i fs)) (drwE C H full r (keep i fs) (put o.dst e env) κ)))
   (fun env=>drwE C H full r fs (put o.dst (.v undef) env) κ)
def asg:Code→List Nat
 | .region _ ops _=>ops.toList.filterMap (·.dst)
 | .seq a b | .cond _ a b=>asg a++asg b
 | .block _ c | .loop c=>asg c
 | _ => []
def apartB (U A:List Nat):Bool:=U.all fun s => !A.any (Nat.beq s)
def thenE (n:Env→PT) (K:Exit→Env→PT) (e:Exit):Env→PT :=
 match e with
 | .normal=>n
 | e=>K e
def blockE (id:Nat) (K:Exit→Env→PT) (e:Exit):Env→PT :=
 match e with
 | .exit id'=>cond (Nat.beq id' id) (K .normal) (K (.exit id'))
 | e=>K e
def codeE (C:Ctx) (H:Hint):Code→Nat→(Exit→Env→PT)→Env→PT
 | .skip,_,K,env=>K .normal env
 | .label _,_,K,env=>K .normal env
 | .region _ ops d,_,K,env=>match d with
  | false=>seqE C H ops.toList ops.toList env fun env=>K .normal env
  | true=>match plan C ops ops.toList.length (Array.replicate ops.toList.length false) with
   | some l=>drw (drwE C H ops.toList l [] env fun env=>K .normal env)
   | none=>F
 | .seq x y,p,K,env=>match H.J.get p with
  | none=>codeE C H x (2*p) (thenE (codeE C H y (2*p+1) K) K) env
  | some (L,U)=>cond (apartB U (asg x)) (joinP (fun R=>codeE C H x (2*p) (thenE (fun env'=>absGet L env' R) K) env)
    (fun s=>codeE C H y (2*p+1) K (absMk L s++pickE U env))) F
 | .cond c x y,p,K,env=>match evE env c with
  | some e=>match e with
   | .lb b=>match b with
    | true=>codeE C H x (2*p) K env
    | false=>codeE C H y (2*p+1) K env
   | .v v=>match v with
    | .bool b=>cnd b (codeE C H x (2*p) K env) (codeE C H y (2*p+1) K env)
    | _=>F
   | _=>F
  | none=>F
 | .block id c,p,K,env=>codeE C H c (2*p) (blockE id K) env
 | .loop c,p,K,env=>match H.J.get p with
  | none=>F
  | some (L,U)=>cond (apartB U (asg c)) (absGet L env fun s0=>loopP s0 fun s again =>
    codeE C H c (2*p) (thenE (fun env'=>absGet L env' again) K) (absMk L s++pickE U env)) F
 | .exit id,_,K,env=>K (.exit id) env
 | .ret,_,K,env=>K .ret env
 | _,_,_,_=>F
def noSel:Code→Bool
 | .region _ ops _=>ops.toList.all fun o=>match o.op with
  | .select .. => false
  | _=>true
 | .seq a b | .cond _ a b=>noSel a&&noSel b
 | .block _ c | .loop c=>noSel c
 | _=>true
def retE (C:Ctx):List ResultVar→Env→(List Value→PT)→PT
 | [],_,κ=>κ []
 | r::rs,env,κ=>match r with
  | .tmp t=>match lk env t with
   | some e=>retE C rs env fun l=>κ (e.val::l)
   | none=>F
  | .cell a t=>match lk env a with
   | some e=>match e with
    | .pt p=>withT C t fun y=>ldT y.tg p fun x=>retE C rs env fun l=>κ (y.tg.mk x::l)
    | _=>F
   | none=>F
def unR:(gs:List Tg)→List Value→(resT gs→PT)→PT
 | [],l,κ=>match l with
  | []=>κ ()
  | _::_=>F
 | [g],l,κ=>match l with
  | [v]=>unT g v κ
  | _=>F
 | g::h::r,l,κ=>match l with
  | v::vs=>unT g v fun x=>unR (h::r) vs fun xs=>κ (x,xs)
  | []=>F
def argsE:Nat→List Ent→Env
 | _,[] => []
 | i,e::r=>(i,e)::argsE (i+1) r
def fnE (C:Ctx) (H:Hint) (gs:List Tg) (fn:Func) (es:List Ent) (κ:resT gs→PT):PT:=match fn.body with
 | some c=>codeE C H c 1 (fun e env=>match e with
  | .normal=>retE C fn.results.toList env fun vs=>unR gs vs κ
  | .ret=>retE C fn.results.toList env fun vs=>unR gs vs κ
  | _=>F) (argsE 0 es)
 | none=>F
def fnOk (fn:Func) (k:Nat):Bool:=match fn.body with
 | some c=>(asg c).all (fun t=>Nat.blt t fn.ntmps)&&noSel c&&Nat.ble k fn.ntmps
 | none=>false
structure TyOk (P:Program) (t:TypeId) (y:TyI):Prop where
 one:∀g,y.tg = .c g→y.size=1
 info:∃i,P.info? t=some i∧i.size=y.size∧i.bytes=y.bytes∧∀zs,y.zero=some zs→∃v,i.zero=some v∧v.cells=zs.toArray∧zs.length=y.size
 und:∃d,P.underlying t=some d ∧
  (match y.tg with
   | .c (.I k)=>d = .int k
   | .c _=>(match d with | .struct _ | .array _ _=>False|_=>True)
   | .m ts=>(match d with | .struct _ | .array _ _=>True|_=>False)∧ts.length=y.size
   | .a n=>(match d with | .struct _ | .array _ _=>True|_=>False)∧n=y.size
   | .q=>False) ∧
  (match y.k with
   | .other=>True
   | .bl=>d = .bool
   | .str=>d = .string
   | .ptr e=>d = .pointer e
   | .ifc=>∃ms,d = .interface ms
   | .sl e=>d = .slice e
   | .arr n e=>d = .array n e
   | .st fs=>∃fields,d = .struct fields∧fs.length=fields.size∧∀(f o z:Nat) (g:Bool),fs[f]? = some (o,z,g)→∃fd i du,fields[f]? = some fd∧fd.offset=o∧P.info? fd.type=some i∧i.size=z ∧
     P.underlying fd.type=some du∧(match du with | .struct _ | .array _ _=>g=true|_=>g=false∧z=1))
structure Good (C:Ctx):Prop where
 T:∀t y,C.T.get t=some y→TyOk C.P t y
 R:∀f gs,C.R.get f=some gs→hasFn C.P f=true
 mixed:C.P.follows .mixedOrders=true
def Rep (env:Env) (a:Act):Prop:=∀s e,lk env s=some e→a.tmps.getD s undef=e.val
theorem evE_eval {env:Env} {a:Act} (h:Rep env a) {x:Operand} {e:Ent} (hx:evE env x=some e):a.eval x=e.val:=by
 cases x with
 | tmp t=>exact h t e hx
 | const v =>
  cases v<;>simp only [evE,Option.some.injEq] at hx<;>subst hx<;>rfl
 | global g=>simp only [evE,Option.some.injEq] at hx;subst hx;rfl
 | func f=>simp only [evE,Option.some.injEq] at hx;subst hx;rfl
theorem Rep.put {env:Env} {a:Act} (h:Rep env a) (d:Option Tmp) (e:Ent) (hd:∀t,d=some t→t<a.tmps.size):Rep (put d e env) (a.put d e.val):=by
 cases d with
 | none=>exact h
 | some d =>
  have hd:=hd d rfl
  intro s e' hs
  simp only [Sx.put,lk] at hs
  cases hb:Nat.beq d s with
  | true =>
   have hds:d=s:=Nat.eq_of_beq_eq_true hb
   subst hds
   simp only [hb,cond_true,Option.some.injEq] at hs
   subst hs
   simp [Act.put,hd]
  | false =>
   have hds:d≠s:=Nat.ne_of_beq_eq_false hb
   simp only [hb,cond_false] at hs
   have:=h s e' hs
   simp only [Act.put]
   simpa [Array.getElem?_setIfInBounds_ne hds] using this
theorem size_put (a:Act) (d:Option Tmp) (v:Value):(a.put d v).tmps.size=a.tmps.size:=by
 cases d<;>simp [Act.put]
section
variable {C:Ctx} {env:Env} {a:Act} {w:World}
theorem withE_out {x:Operand} {κ:Ent→PT} (hr:Rep env a) (h:withE env x κ w):∃e,a.eval x=e.val∧κ e w:=by
 unfold withE at h
 cases he:evE env x with
 | none=>rw [he] at h;exact h.elim
 | some e=>rw [he] at h;exact ⟨e,evE_eval hr he,h⟩
theorem withV_out {x:Operand} {κ:Value→PT} (hr:Rep env a) (h:withV env x κ w):κ (a.eval x) w:=by
 unfold withV at h
 cases he:evE env x with
 | none=>rw [he] at h;exact h.elim
 | some e=>rw [he] at h;rw [evE_eval hr he];exact h
theorem withVs_out (hr:Rep env a):∀ {xs:List Operand} {κ:List Value→PT},withVs env xs κ w→κ (xs.map a.eval) w
 | [],_,h=>h
 | x::xs,κ,h=>withVs_out hr (xs:=xs) (κ:=fun vs=>κ (a.eval x::vs)) (withV_out hr h)
theorem withO_out {x:Option Operand} {κ:Option Int→PT} (hr:Rep env a) (h:withO env x κ w) :
  (x=none∧κ none w)∨∃y k n,x=some y∧a.eval y = .int k n∧κ (some n) w:=by
 unfold withO at h
 cases x with
 | none=>exact .inl ⟨rfl,h⟩
 | some y =>
  have:=withV_out hr h
  cases he:a.eval y<;>rw [he] at this<;>first|exact this.elim|exact .inr ⟨y,_,_,rfl,he,this⟩
theorem withT_out {t:TypeId} {κ:TyI→PT} (h:withT C t κ w):∃y,C.T.get t=some y∧κ y w:=by
 unfold withT at h
 cases he:C.T.get t with
 | none=>rw [he] at h;exact h.elim
 | some y=>rw [he] at h;exact ⟨y,rfl,h⟩
theorem withP_out {x:Operand} {κ:Addr→PT} (hr:Rep env a) (h:withP env x κ w):∃p,a.eval x = .pointer (some p)∧κ p w:=by
 obtain ⟨e,he,h⟩:=withE_out hr h
 cases e with
 | pt p=>exact ⟨p,he,h⟩
 | v v =>
  cases v<;>first|exact h.elim|(obtain ⟨p,rfl,h⟩:=h;exact ⟨p,he,h⟩)
 | _=>exact h.elim
theorem withParts_out {ps:List (Nat×Operand)} : ∀ {κ:List (Nat×Value)→PT},Rep env a→withParts env ps κ w→κ (ps.map fun p=>(p.1,a.eval p.2)) w:=by
 induction ps with
 | nil=>exact fun _ h=>h
 | cons p ps ih=>exact fun hr h=>ih hr (withV_out hr h)
theorem cond_out {b:Bool} {x:PT} (h:(cond b x F) w):b=true∧x w:=by
 cases b
 ·exact h.elim
 ·exact ⟨rfl,h⟩
end
theorem same_eq {k k':IntKind} (h:IntKind.same k k'=true):k=k':=by
 cases k<;>cases k'<;>first|rfl|(exact absurd h (by decide))
section
variable {P:Program} {t:TypeId} {y:TyI}
theorem TyOk.run_size (h:TyOk P t y) (w:World):(sizeOf t).run P w = .ok y.size w:=by
 obtain ⟨i,hi,hs, -⟩:=h.info
 simp [sizeOf,typeInfo,hi,hs]
theorem TyOk.run_info (h:TyOk P t y) (w:World):∃i,(typeInfo t).run P w = .ok i w∧i.size=y.size∧i.bytes=y.bytes:=by
 obtain ⟨i,hi,hs,hb, -⟩:=h.info
 exact ⟨i,by simp [typeInfo,hi],hs,hb⟩
theorem TyOk.run_zero (h:TyOk P t y) {zs:List Value} (hz:y.zero=some zs) (w:World):∃v,(zeroValue t).run P w = .ok v w∧v.cells=zs.toArray∧zs.length=y.size:=by
 obtain ⟨i,hi, -, -,hzs⟩:=h.info
 obtain ⟨v,hv,hc⟩:=hzs zs hz
 exact ⟨v,by simp [zeroValue,typeInfo,hi,hv],hc⟩
theorem run_und {d:TypeDesc} (h:P.underlying t=some d) (w:World):(underlying t).run P w = .ok d w:=by
 simp [underlying,h]
theorem TyOk.run_sl (h:TyOk P t y) {e:TypeId} (hk:y.k = .sl e) (w:World):(underlying t).run P w = .ok (.slice e) w:=by
 obtain ⟨d,hd, -,h2⟩:=h.und
 rw [hk] at h2
 exact run_und (h2▸hd) w
theorem TyOk.run_arr (h:TyOk P t y) {n:Nat} {e:TypeId} (hk:y.k = .arr n e) (w:World):(underlying t).run P w = .ok (.array n e) w:=by
 obtain ⟨d,hd, -,h2⟩:=h.und
 rw [hk] at h2
 exact run_und (h2▸hd) w
theorem TyOk.run_int (h:TyOk P t y) {k:IntKind} (hk:y.tg = .c (.I k)) (w:World):(underlying t).run P w = .ok (.int k) w:=by
 obtain ⟨d,hd,h2, -⟩:=h.und
 rw [hk] at h2
 exact run_und (h2▸hd) w
theorem TyOk.run_agg (h:TyOk P t y) (w:World):(isAgg t).run P w = .ok y.tg.isAgg w:=by
 obtain ⟨d,hd,h2, -⟩:=h.und
 unfold isAgg
 rw [Sem.run_bind,run_und hd,Result.andThen_ok]
 cases hg:y.tg with
 | c g =>
  rw [hg] at h2
  cases g with
  | I k=>simp only at h2;subst h2;rfl
  | _=>cases d<;>simp_all [Tg.isAgg]
 | m ts=>rw [hg] at h2;cases d<;>simp_all [Tg.isAgg]
 | a n=>rw [hg] at h2;cases d<;>simp_all [Tg.isAgg]
 | q=>rw [hg] at h2;exact h2.elim
end
theorem mkL_length:∀(ts:List CT) (x:tyL ts),(mkL ts x).length=ts.length
 | [],_=>rfl
 | [_],_=>rfl
 | _::u::r,x=>by simp [mkL,mkL_length (u::r) x.2]
theorem ldL_out:∀ {ts:List CT} {p:Addr} {i:Nat} {κ:tyL ts→PT} {w:World},ldL ts p i κ w→∃x,(∀j v,(mkL ts x)[j]? = some v→w.cell? (p.add (i+j))=some v)∧κ x w
 | [],_,_,_,_,h=>⟨(),by simp [mkL],h⟩
 | [t],p,i,κ,w,h=>by
  obtain ⟨x,hx,h⟩:=h
  refine ⟨x,fun j v hj => ?_,h⟩
  cases j with
  | zero=>simp [mkL] at hj;subst hj;simpa using hx
  | succ j=>simp [mkL] at hj
 | t::u::r,p,i,κ,w,h=>by
  obtain ⟨x,hx,h⟩:=h
  obtain ⟨xs,hxs,h⟩:=ldL_out h
  refine ⟨(x,xs),fun j v hj => ?_,h⟩
  cases j with
  | zero=>simp [mkL] at hj;subst hj;simpa using hx
  | succ j =>
   simp only [mkL,List.getElem?_cons_succ] at hj
   have:=hxs j v hj
   rwa [Nat.add_assoc,Nat.add_comm 1 j] at this
theorem cells_go {p:Addr} {w:World} : ∀ {l:List Value} {i:Nat},(∀f∈cellsOf.go p i l,w.cell? f.1=some f.2)↔∀j v,l[j]? = some v→w.cell? (p.add (i+j))=some v
 | [],i=>by simp [cellsOf.go]
 | v::r,i=>by
  simp only [cellsOf.go,List.mem_cons,forall_eq_or_imp,cells_go (l:=r) (i:=i+1)]
  constructor
  ·intro ⟨h0,h1⟩ j u hj
   cases j with
   | zero=>simp at hj;subst hj;simpa using h0
   | succ j=>have:=h1 j u (by simpa using hj);rwa [Nat.add_assoc,Nat.add_comm 1 j] at this
  ·intro h
   refine ⟨by simpa using h 0 v (by simp),fun j u hj => ?_⟩
   have:=h (j+1) u (by simpa using hj)
   rwa [Nat.add_assoc,Nat.add_comm 1 j]
theorem ent_val (g:Tg) (x:g.ty):(g.ent x).val=g.mk x:=by cases g<;>rfl
theorem ldT_out {g:Tg} {p:Addr} {κ:g.ty→PT} {w:World} (h:ldT g p κ w):∃x,(∀f∈cellsOf g p x,w.cell? f.1=some f.2)∧κ x w∧(∀n,g = .a n→(g.mk x).cells.size=n):=by
 cases g with
 | c t =>
  obtain ⟨x,hx,h⟩:=h
  exact ⟨x,by simp [cellsOf,hx],h,by simp⟩
 | m ts =>
  obtain ⟨x,hx,h⟩:=ldL_out h
  exact ⟨x,by simp only [cellsOf];rw [cells_go];exact hx,h,by simp⟩
 | a n =>
  obtain ⟨cs,hn,hx,h⟩:=h
  refine ⟨cs,?_,h,by rintro m ⟨⟩;exact hn⟩
  simp only [cellsOf]
  rw [cells_go]
  intro j v hj
  have hjn:j<n:=by rw [←hn];exact (List.getElem?_eq_some_iff.1 hj).1
  rw [Nat.zero_add,hx j hjn]
  simpa using hj
 | q=>exact h.elim
theorem run_load_ok {P:Program} {t:TypeId} {y:TyI} (ht:TyOk P t y) {p:Addr} {x:y.tg.ty} {w:World} (hx:∀f∈cellsOf y.tg p x,w.cell? f.1=some f.2)
  (hn:∀n,y.tg = .a n→(y.tg.mk x).cells.size=n) :
  (loadVar t p).run P w = .ok (y.tg.mk x) w:=by
 have hagg:=ht.run_agg w
 obtain ⟨d,hd,h2, -⟩:=ht.und
 unfold loadVar
 rw [Sem.run_bind,hagg,Result.andThen_ok]
 have hsz:=ht.run_size w
 revert x
 generalize hg:y.tg=g at *
 intro x hx hn
 cases g with
 | c t =>
  simp only [cellsOf,List.mem_singleton,forall_eq] at hx
  simp [Tg.isAgg,Tg.mk,hx]
 | m ts =>
  simp only [cellsOf] at hx
  rw [cells_go] at hx
  have hl:=run_loadCells_list (P:=P) w p (mkL ts x) (fun j v hj=>by simpa using hx j v hj)
  rw [mkL_length,h2.2] at hl
  simp [Tg.isAgg,Tg.mk,hsz,hl]
 | a n =>
  simp only [cellsOf] at hx
  rw [cells_go] at hx
  have hl:=run_loadCells_list (P:=P) w p (Array.toList x) (fun j v hj=>by simpa using hx j v hj)
  have hxs:x.size=n:=hn n rfl
  rw [Array.length_toList,hxs,h2.2] at hl
  simp [Tg.isAgg,Tg.mk,hsz,hl]
 | q=>exact h2.elim
def nonEq:BinOp→Bool
 | .eql=>false
 | .neq=>false
 | _=>true
theorem eqGuard_non {P:Program} {op:BinOp} {t:TypeId} {x y:Operand} {v u:Value} (h:nonEq op=true) (w:World):(eqGuard op t x y v u).run P w = .ok () w:=by
 unfold eqGuard
 cases op<;>first|(exact absurd h (by decide))|simp
theorem ints_out {k k':IntKind} {X:PT} {w:World} (h:cond (IntKind.same k k') X F w):k=k'∧X w:=by
 obtain ⟨h1,h2⟩:=cond_out h
 exact ⟨same_eq h1,h2⟩
theorem binE_out {P:Program} {op:BinOp} {t:TypeId} {v u:Value} {κ:Ent→PT} {w:World} (hn:nonEq op=true)
  (h:binE op v u κ w):∃e:Ent,κ e w∧∀w',(binOp op t v u).run P w' = .ok e.val w':=by
 have fin:∀(e:Ent),κ e w→(∀w',(binOp op t v u).run P w' = .ok e.val w')→∃e:Ent,κ e w∧∀w',(binOp op t v u).run P w' = .ok e.val w':=fun e hk h2=>⟨e,hk,h2⟩
 cases op
 case eql=>exact absurd hn (by decide)
 case neq=>exact absurd hn (by decide)
 case shl =>
  cases v<;>cases u<;>first|exact h.elim|skip
  obtain ⟨h0,h⟩:=h
  refine fin _ h (fun w' => ?_)
  simp only [binOp,Op.shift]
  rw [if_neg (by omega)]
  rfl
 case shr =>
  cases v<;>cases u<;>first|exact h.elim|skip
  obtain ⟨h0,h⟩:=h
  refine fin _ h (fun w' => ?_)
  simp only [binOp,Op.shift]
  rw [if_neg (by omega)]
  rfl
 case quo =>
  cases v<;>cases u<;>first|exact h.elim|skip
  obtain ⟨he,h0,h'⟩:=ints_out h
  subst he
  refine fin _ h' (fun w' => ?_)
  simp only [binOp,Op.intDiv,ne_eq,not_true_eq_false,if_false]
  rw [if_neg h0]
  rfl
 case rem =>
  cases v<;>cases u<;>first|exact h.elim|skip
  obtain ⟨he,h0,h'⟩:=ints_out h
  subst he
  refine fin _ h' (fun w' => ?_)
  simp only [binOp,Op.intDiv,ne_eq,not_true_eq_false,if_false]
  rw [if_neg h0]
  rfl
 all_goals
  cases v<;>cases u<;>first|exact h.elim|skip
  obtain ⟨he,h'⟩:=ints_out h
  subst he
  refine fin _ h' (fun w' => ?_)
  simp only [binOp,ne_eq,not_true_eq_false,if_false,Op.intArith,Op.intBits,Op.intCmp,Ent.val,andI,orI,xorI,andNotI,Sem.run_pure,gt_iff_lt,ge_iff_le]
theorem eqlE_out {C:Ctx} (G:Good C) {neg:Bool} {t:TypeId} {x y:Operand} {v u:Value} {κ:Ent→PT} {w:World}
  (hw:neg=true∨isCst y=true∨∀ty,C.T.get t=some ty→ty.tg ≠ .c .V) (h:eqlE C neg (isCst y) (isCst x) t v u κ w) :
  ∃e:Ent,κ e w∧∀w',(do eqGuard (cond neg .neq .eql) t x y v u;binOp (cond neg .neq .eql) t v u:Sem Value).run C.P w' = .ok e.val w':=by
 obtain ⟨ty,hty,hh⟩:=withT_out h
 clear h
 have h:=hh
 clear hh
 have ok:=G.T t ty hty
 obtain ⟨d,hd,h1,h2⟩:=ok.und
 cases hg:ty.tg with
 | c g =>
  rw [hg] at h h1
  cases g with
  | I k =>
   revert h
   cases v<;>cases u<;>intro h<;>first|exact h.elim|skip
   rename_i k n k' m
   obtain ⟨he,h'⟩:=ints_out h
   subst he
   refine ⟨_,h',fun w' => ?_⟩
   have e1:(eqGuard (cond neg .neq .eql) t x y (.int k n) (.int k m)).run C.P w' = .ok () w':=by cases neg<;>simp [eqGuard]
   rw [Sem.run_bind,e1,Result.andThen_ok]
   cases neg
   ·simp only [cond_false,binOp,ne_eq,not_true_eq_false,if_false,Op.intCmp,Ent.val,Sem.run_pure,Result.ok.injEq,Value.bool.injEq,and_true]
    by_cases e:n=m<;>simp [e]
   ·simp only [cond_true,binOp,ne_eq,not_true_eq_false,if_false,Op.intCmp,Ent.val,Sem.run_pure,Result.ok.injEq,Value.bool.injEq,and_true]
    by_cases e:n=m<;>simp [e]
  | B =>
   cases hk:ty.k<;>simp only [hk] at h h2<;>first|exact h.elim|skip
   revert h
   cases v<;>cases u<;>intro h<;>first|exact h.elim|skip
   rename_i a b
   refine ⟨_,h,fun w' => ?_⟩
   have e1:(eqGuard (cond neg .neq .eql) t x y (.bool a) (.bool b)).run C.P w' = .ok () w':=by cases neg<;>simp [eqGuard]
   have e2:(Op.equal t (.bool a) (.bool b)).run C.P w' = .ok (a==b) w':=by
    show (Op.equalIn (9999+1) t (.bool a) (.bool b)).run C.P w'=_
    rw [Op.equalIn,Sem.run_bind,run_und hd,h2];rfl
   rw [Sem.run_bind,e1,Result.andThen_ok]
   cases neg<;>simp only [cond_false,cond_true,binOp,Sem.run_bind,e2,Result.andThen_ok,Sem.run_pure,Ent.val]
  | P =>
   cases hk:ty.k<;>simp only [hk] at h h2<;>first|exact h.elim|skip
   revert h
   cases v<;>cases u<;>intro h<;>first|exact h.elim|skip
   rename_i o o2
   cases o2 with
   | some _=>exact h.elim
   | none =>
    refine ⟨_,h,fun w' => ?_⟩
    have e1:(eqGuard (cond neg .neq .eql) t x y (.pointer o) (.pointer none)).run C.P w' = .ok () w':=by cases neg<;>simp [eqGuard]
    have e2:(Op.equal t (.pointer o) (.pointer none)).run C.P w' = .ok o.isNone w':=by
     show (Op.equalIn (9999+1) t (.pointer o) (.pointer none)).run C.P w'=_
     rw [Op.equalIn,Sem.run_bind,run_und hd,h2]
     cases o<;>rfl
    rw [Sem.run_bind,e1,Result.andThen_ok]
    cases neg<;>simp only [cond_false,cond_true,binOp,Sem.run_bind,e2,Result.andThen_ok,Sem.run_pure,Ent.val]
  | V =>
   cases hk:ty.k<;>simp only [hk] at h h2<;>first|exact h.elim|skip
   cases hc:isCst y with
   | false =>
    rw [hc] at h
    cases neg with
    | true=>exact h.elim
    | false=>exact absurd hg (by rcases hw with hw|hw|hw<;>first|(cases hw;done)|(rw [hc] at hw;cases hw;done)|exact hw ty hty)
   | true =>
    rw [hc] at h
    revert h
    cases u<;>intro h<;>first|exact h.elim|skip
    obtain ⟨h0,h⟩:=h
    obtain ⟨ms,h2⟩:=h2
    refine ⟨_,h,fun w' => ?_⟩
    have e1:(eqGuard (cond neg .neq .eql) t x y v .nilIface).run C.P w' = .ok () w':=by
     cases y<;>first|(cases hc;done)|skip
     cases neg<;>cases v<;>first|(cases h0;done)|simp [eqGuard]
    have e2:(Op.equal t v .nilIface).run C.P w' = .ok (isNil v) w':=by
     show (Op.equalIn (9999+1) t v .nilIface).run C.P w'=_
     rw [Op.equalIn,Sem.run_bind,run_und hd,h2]
     cases v<;>first|(cases h0;done)|rfl
    rw [Sem.run_bind,e1,Result.andThen_ok]
    cases neg<;>cases v<;>first|(cases h0;done)|simp only [cond_false,cond_true,binOp,Sem.run_bind,e2,Result.andThen_ok,Sem.run_pure,Ent.val]
  | S =>
   cases hk:ty.k<;>simp only [hk] at h h2<;>first|exact h.elim|skip
   cases hc:isCst y with
   | false=>rw [hc] at h;exact h.elim
   | true =>
    rw [hc] at h
    revert h
    cases v<;>cases u<;>intro h<;>first|exact h.elim|skip
    rename_i a l c a2 l2 c2
    cases a2 with
    | some _=>exact h.elim
    | none =>
     refine ⟨_,h,fun w' => ?_⟩
     have e1:(eqGuard (cond neg .neq .eql) t x y (.slice a l c) (.slice none l2 c2)).run C.P w' = .ok () w':=by cases neg<;>simp [eqGuard]
     have e2:(Op.equal t (.slice a l c) (.slice none l2 c2)).run C.P w' = .ok a.isNone w':=by
      show (Op.equalIn (9999+1) t (.slice a l c) (.slice none l2 c2)).run C.P w'=_
      rw [Op.equalIn,Sem.run_bind,run_und hd,h2]
      cases a<;>rfl
     rw [Sem.run_bind,e1,Result.andThen_ok]
     cases neg<;>simp only [cond_false,cond_true,binOp,Sem.run_bind,e2,Result.andThen_ok,Sem.run_pure,Ent.val]
 | m _=>rw [hg] at h;exact h.elim
 | a _=>rw [hg] at h;exact h.elim
 | q=>rw [hg] at h;exact h.elim
section
variable {C:Ctx} {env:Env} {a:Act} {w:World}
theorem fillE_out {place:Nat→Option (Nat×Nat×Bool)} {κ:List Value→PT} : ∀ {ps:List (Nat×Value)} {l:List Value},fillE place ps l κ w →
  ∃l',Instr.fill (fun i=>(place i).map fun x=>(x.1,x.2.1)) ⟨l⟩ ps=some ⟨l'⟩∧κ l' w
 | [],l,h=>⟨l,rfl,h⟩
 | (i,v)::r,l,h=>by
  simp only [fillE] at h
  cases hp:place i with
  | none=>rw [hp] at h;exact h.elim
  | some x =>
   obtain ⟨o,z,g⟩:=x
   rw [hp] at h
   cases g with
   | false =>
    obtain ⟨h1,hb⟩:=cond_out h
    obtain ⟨h2,hf⟩:=cond_out hb
    rw [Bool.and_eq_true] at h1
    have hz:z=1:=Nat.eq_of_beq_eq_true h1.2
    have ho:o<l.length:=Nat.blt_eq.mp h2
    obtain ⟨l',hl,hk⟩:=fillE_out hf
    refine ⟨l',?_,hk⟩
    have hc:v.cells = #[v]:=by cases v<;>first|rfl|(exact absurd h1.1 (by simp [one]))
    simp only [Instr.fill,hp,Option.map_some]
    split
    ·rename_i hbad
     simp [hc] at hbad
     omega
    ·rw [←hl,hc]
     congr 1
     rw [show (#[v]:Array Value).zipIdx = #[(v,0)] from rfl]
     apply Array.ext'
     simp
   | true =>
    cases v<;>first|exact h.elim|skip
    rename_i cs
    obtain ⟨h1,hb⟩:=cond_out h
    obtain ⟨h2,hf⟩:=cond_out hb
    have hz:cs.toList.length=z:=Nat.eq_of_beq_eq_true h1
    have ho:o+z≤l.length:=Nat.ble_eq.mp h2
    obtain ⟨l',hl,hk⟩:=fillE_out hf
    refine ⟨l',?_,hk⟩
    simp only [Instr.fill,hp,Option.map_some]
    split
    ·rename_i hbad
     have h3:(Value.agg cs).cells.size=z:=by simpa [Value.cells] using hz
     rw [Bool.or_eq_true,decide_eq_true_eq,decide_eq_true_eq] at hbad
     rcases hbad with hbad|hbad
     ·exact absurd h3 hbad
     ·rw [h3] at hbad
      have:({ toList:=l } : Array Value).size=l.length:=rfl
      omega
    ·rw [←hl]
     congr 1
     obtain ⟨vs⟩:=cs
     have key:∀(vs:List Value) (k:Nat) (l:List Value),((vs.zipIdx k).foldl (fun (cs:Array Value) (x:Value×Nat)=>cs.setIfInBounds (o+x.2) x.1) ⟨l⟩)=⟨listSet l (o+k) vs⟩:=by
      intro vs
      induction vs with
      | nil=>intro k l;rfl
      | cons v vs ih =>
       intro k l
       simp only [List.zipIdx_cons,List.foldl_cons,listSet]
       rw [show (⟨l⟩:Array Value).setIfInBounds (o+k) v=⟨l.set (o+k) v⟩ from by
        apply Array.ext'
        simp]
       rw [ih (k+1)]
       rfl
     have hk0:=key vs 0 l
     have e1:(Value.agg ⟨vs⟩).cells.zipIdx=⟨vs.zipIdx⟩:=by
      show Array.zipIdx ⟨vs⟩=_
      simp
     rw [e1]
     simpa using hk0
theorem nthE_out {gs:List Tg} : ∀ {x:resT gs} {i:Nat} {e:Ent},nthE gs x i=some e→(resL gs x)[i]? = some e.val:=by
 induction gs with
 | nil=>intro x i e h;cases h
 | cons g r ih =>
  cases r with
  | nil =>
   intro x i e h
   simp only [nthE] at h
   cases hb:Nat.beq i 0 with
   | false=>rw [hb] at h;cases h
   | true =>
    have:i=0:=Nat.eq_of_beq_eq_true hb
    subst this
    simp only [Nat.beq,cond_true,Option.some.injEq] at h
    subst h
    simp [resL,ent_val]
  | cons g2 r =>
   intro x i e h
   cases i with
   | zero=>simp only [nthE,Option.some.injEq] at h;subst h;simp [resL,ent_val]
   | succ i=>simp only [nthE] at h;simpa [resL] using ih h
theorem run_sliceBound {P:Program} {k:IntKind} {i:Int} {n y:Nat} (c:BoundsCode) (hi:i=n) (h:n≤y) (w:World):(Instr.sliceBound (.int k i) y c).run P w = .ok n w:=by
 subst hi
 simp only [Instr.sliceBound,asIntOf,Sem.run_bind,Sem.run_pure,Result.andThen_ok]
 rw [if_pos (by omega)]
 simp
theorem mxOk_out {hi mx:Option Operand} {κ:PT} (h:mxOk hi mx κ w):(mx=none∨hi≠none)∧κ w:=by
 cases mx with
 | none=>exact ⟨.inl rfl,h⟩
 | some _=>cases hi with
  | none=>exact h.elim
  | some _=>exact ⟨.inr (by simp),h⟩
theorem run_bounds {P:Program} (b:Bool) (len cap:Nat) {lo hi mx:Option Operand} {l h m:Nat} {flo fhi fmx:Option Int} (hnm:mx=none∨hi≠none)
  (elo:(lo=none∧flo=none)∨∃y k n,lo=some y∧a.eval y = .int k n∧flo=some n)
  (ehi:(hi=none∧fhi=none)∨∃y k n,hi=some y∧a.eval y = .int k n∧fhi=some n)
  (emx:(mx=none∧fmx=none)∨∃y k n,mx=some y∧a.eval y = .int k n∧fmx=some n)
  (h1:bOk fmx m cap cap) (h2:bOk fhi h m len) (h3:bOk flo l h 0) (w:World) :
  (Instr.sliceBounds b len cap (lo.map a.eval) (hi.map a.eval) (mx.map a.eval)).run P w = .ok (l,h,m) w:=by
 unfold Instr.sliceBounds
 unfold bOk at h1 h2 h3
 rcases emx with ⟨rfl,rfl⟩|⟨ym,km,nm,rfl,evm,rfl⟩
 ·simp only at h1
  subst h1
  rcases ehi with ⟨rfl,rfl⟩|⟨yh,kh,nh,rfl,evh,rfl⟩
  ·simp only at h2
   subst h2
   rcases elo with ⟨rfl,rfl⟩|⟨yl,kl,nl,rfl,evl,rfl⟩
   ·simp only at h3;subst h3;simp
   ·simp [evl,run_sliceBound _ h3.1 h3.2]
  ·rcases elo with ⟨rfl,rfl⟩|⟨yl,kl,nl,rfl,evl,rfl⟩
   ·simp only at h3;subst h3;simp [evh,run_sliceBound _ h2.1 h2.2]
   ·simp [evl,evh,run_sliceBound _ h3.1 h3.2,run_sliceBound _ h2.1 h2.2]
 ·rcases ehi with ⟨rfl,rfl⟩|⟨yh,kh,nh,rfl,evh,rfl⟩
  ·rcases hnm with hnm|hnm<;>simp at hnm
  ·rcases elo with ⟨rfl,rfl⟩|⟨yl,kl,nl,rfl,evl,rfl⟩
   ·simp only at h3;subst h3;simp [evh,evm,run_sliceBound _ h2.1 h2.2,run_sliceBound _ h1.1 h1.2]
   ·simp [evl,evh,evm,run_sliceBound _ h3.1 h3.2,run_sliceBound _ h2.1 h2.2,run_sliceBound _ h1.1 h1.2]
theorem places_of {P:Program} : ∀(fl:List Field) (fs:List (Nat×Nat×Bool)),fs.length=fl.length →
  (∀(f o z:Nat) (g:Bool),fs[f]? = some (o,z,g)→∃fd i,fl[f]? = some fd∧fd.offset=o∧P.info? fd.type=some i∧i.size=z) →
  fl.mapM (fun f=>(P.info? f.type).map fun i=>(f.offset,i.size))=some (fs.map fun x=>(x.1,x.2.1))
 | [],[],_,_=>rfl
 | [],_::_,h,_=>by simp at h
 | _::_,[],h,_=>by simp at h
 | fd::fl,(o,z,g)::fs,h,hh=>by
  obtain ⟨fd',i,h1,h2,h3,h4⟩:=hh 0 o z g rfl
  simp only [List.getElem?_cons_zero,Option.some.injEq] at h1
  subst h1
  have ih:=places_of fl fs (by simpa using h) (fun f o z g hf=>by simpa using hh (f+1) o z g (by simpa using hf))
  simp [List.mapM_cons,h3,ih,h2,h4]
theorem wl_run (G:Good C) {o:Oper} (hr:Rep env a) {κ:Ent→PT} (hw:wl C o.op=true) (hl:∀t x,o.op ≠ .load t x) (h:opE C o.op env κ w) :
  ∃e:Ent,κ e w∧∀w',(execOp a.eval o).run C.P w' = .ok (.value e.val) w':=by
 obtain ⟨dst,op,type,pos,after,guard⟩:=o
 have val:∀ {s:Sem Value} {e:Ent},κ e w→(∀w',s.run C.P w' = .ok e.val w')→(∀w',(execOp a.eval ⟨dst,op,type,pos,after,guard⟩).run C.P w'=(do pure (.value (←s)):Sem Next).run C.P w') →
   ∃e:Ent,κ e w∧∀w',(execOp a.eval ⟨dst,op,type,pos,after,guard⟩).run C.P w' = .ok (.value e.val) w':=fun {s e} hk h1 h2 =>
  ⟨e,hk,fun w'=>by rw [h2,Sem.run_bind,h1];rfl⟩
 cases op
 case load t x=>exact absurd rfl (hl t x)
 case move x =>
  obtain ⟨e,he,hk⟩:=withE_out hr h
  exact ⟨e,hk,fun w'=>by simp [execOp,he]⟩
 case assign x =>
  obtain ⟨e,he,hk⟩:=withE_out hr h
  exact ⟨e,hk,fun w'=>by simp [execOp,he]⟩
 case pick c x y =>
  obtain ⟨e,he,hk⟩:=withE_out hr h
  have br:∀(b:Bool) (z:Operand),e.val = .bool b→withE env z κ w→z=(if b then x else y)→∃e:Ent,κ e w∧∀w',(execOp a.eval ⟨dst,.pick c x y,type,pos,after,guard⟩).run C.P w' = .ok (.value e.val) w':=fun b z hb hz hzz=>by
   obtain ⟨e2,he2,hk2⟩:=withE_out hr hz
   refine ⟨e2,hk2,fun w' => ?_⟩
   subst hzz
   rw [hb] at he
   cases b<;>simp_all [execOp,asBool]
  cases e with
  | lb t =>
   cases t
   ·exact br false y rfl hk rfl
   ·exact br true x rfl hk rfl
  | v v =>
   cases v<;>first|exact hk.elim|skip
   rename_i t
   cases t
   ·exact br false y rfl (hk.2 rfl) rfl
   ·exact br true x rfl (hk.1 rfl) rfl
  | _=>exact hk.elim
 case nilCheck x =>
  obtain ⟨p,hp,hk⟩:=withP_out hr h
  exact ⟨_,hk,fun w'=>by simp [execOp,hp,Ent.val]⟩
 case binOp op t x y yt =>
  dsimp only [opE] at h
  have h1:=withV_out hr (withV_out hr h)
  cases ho:nonEq op with
  | true =>
   have h2:binE op (a.eval x) (a.eval y) κ w:=by cases op<;>first|(cases ho;done)|exact h1
   obtain ⟨e,hk,hrun⟩:=binE_out (P:=C.P) (t:=t) ho h2
   exact val hk hrun (fun w'=>by simp only [execOp,Sem.run_bind,eqGuard_non ho,Result.andThen_ok])
  | false =>
   have hh:∀neg,op=cond neg .neq .eql→∃e:Ent,κ e w∧∀w',(execOp a.eval ⟨dst,.binOp op t x y yt,type,pos,after,guard⟩).run C.P w' = .ok (.value e.val) w':=fun neg hop=>by
    have h2:eqlE C neg (isCst y) (isCst x) t (a.eval x) (a.eval y) κ w:=by cases neg<;>subst hop<;>exact h1
    obtain ⟨e,hk,hrun⟩:=eqlE_out G (x:=x) (by
     cases neg with
     | true=>exact .inl rfl
     | false =>
      subst hop
      refine .inr ?_
      simp only [wl,cond_false,Bool.or_eq_true] at hw
      refine hw.imp id fun hw ty hty hg => ?_
      rw [hty] at hw
      simp [hg] at hw) h2
    refine val hk hrun (fun w' => ?_)
    subst hop
    rfl
   cases op<;>first|(cases ho;done)|exact hh false rfl|exact hh true rfl
 case unOp op t x =>
  dsimp only [opE] at h
  obtain ⟨e,he,hk⟩:=withE_out hr h
  cases op<;>first|exact hk.elim|skip
  case not =>
   cases e with
   | lb b=>exact val (e := .lb (!b)) (s:=Op.unary .not (a.eval x)) hk (fun w'=>by rw [he];simp [Op.unary,Ent.val]) (fun w'=>rfl)
   | v v =>
    cases v<;>first|exact hk.elim|skip
    exact val hk (fun w'=>by rw [he];simp [Op.unary,Ent.val]) (fun w'=>rfl)
   | _=>exact hk.elim
  case neg =>
   cases hv:e.val<;>rw [hv] at hk<;>first|exact hk.elim|skip
   exact val hk (fun w'=>by rw [he,hv];simp [Op.unary,Op.intArith,Ent.val]) (fun w'=>rfl)
  case xor =>
   cases hv:e.val<;>rw [hv] at hk<;>first|exact hk.elim|skip
   exact val hk (fun w'=>by rw [he,hv];simp [Op.unary,Op.intBits,Ent.val,xorI]) (fun w'=>rfl)
 case convert src t x =>
  dsimp only [opE] at h
  obtain ⟨ys,hys,h1⟩:=withT_out h
  obtain ⟨y,hy,h2⟩:=withT_out (withV_out hr h1)
  have oks:=G.T src ys hys
  have ok:=G.T t y hy
  obtain ⟨ds,hds, -⟩:=oks.und
  cases hg:y.tg with
  | c g =>
   rw [hg] at h2
   cases g with
   | I k =>
    cases hv:a.eval x<;>rw [hv] at h2<;>first|exact h2.elim|skip
    exact val (s:=convert src t (a.eval x)) h2 (fun w'=>by
     simp only [hv,convert,Sem.run_bind,run_und hds,ok.run_int hg,Result.andThen_ok,Ent.val]
     cases ds<;>rfl) (fun w'=>rfl)
   | _=>exact h2.elim
  | _=>rw [hg] at h2;exact h2.elim
 case sliceToArrayPointer t x =>
  dsimp only [opE] at h
  obtain ⟨y,hy,h2⟩:=withT_out (withV_out hr h)
  have ok:=G.T t y hy
  cases hk:y.k<;>rw [hk] at h2<;>first|exact h2.elim|skip
  cases hv:a.eval x<;>rw [hv] at h2<;>first|exact h2.elim|skip
  obtain ⟨h0,h3⟩:=h2
  exact val (s:=Instr.arrayAt t (a.eval x)) h3 (fun w'=>by
   simp only [hv,Instr.arrayAt,Sem.run_bind,ok.run_arr hk,Result.andThen_ok,Ent.val]
   rw [if_neg (by omega)]
   rfl) (fun w'=>rfl)
 case makeInterface t x =>
  dsimp only [opE] at h
  obtain ⟨y,hy,h2⟩:=withT_out (withV_out hr h)
  obtain ⟨d,hd, -,h3⟩:=(G.T t y hy).und
  have fin:κ (.v (.iface t (a.eval x))) w→(∀ms,d ≠ .interface ms)→∃e:Ent,κ e w∧∀w',(execOp a.eval ⟨dst,.makeInterface t x,type,pos,after,guard⟩).run C.P w' = .ok (.value e.val) w':=fun h2 hne =>
   val (s:=Instr.makeInterface t (a.eval x)) h2 (fun w'=>by
    simp only [Instr.makeInterface,Sem.run_bind,run_und hd,Result.andThen_ok]
    cases d<;>first|rfl|exact absurd rfl (hne _)) (fun w'=>rfl)
  cases hk:y.k<;>rw [hk] at h2 h3<;>first|exact h2.elim|exact fin h2 (fun ms e=>by simp only at h3;rw [h3] at e;cases e)
 case makeFunc fn f c =>
  dsimp only [opE] at h
  have h2:=withVs_out hr (withVs_out hr h)
  refine ⟨_,h2,fun w' => ?_⟩
  obtain ⟨f⟩:=f
  obtain ⟨c⟩:=c
  simp [execOp,Instr.makeFunc,Ent.val]
 case slice t x lo hi mx =>
  dsimp only [opE] at h
  obtain ⟨y,hy,h2⟩:=withT_out h
  have ok:=G.T t y hy
  have opt:∀ {z:Option Operand} {κ':Option Int→PT},withO env z κ' w→∃f,((z=none∧f=none)∨∃y k n,z=some y∧a.eval y = .int k n∧f=some n)∧κ' f w:=fun {z κ'} hz=>by
   rcases withO_out hr hz with ⟨rfl,hk⟩|⟨y,k,n,rfl,hev,hk⟩
   ·exact ⟨none,.inl ⟨rfl,rfl⟩,hk⟩
   ·exact ⟨some n,.inr ⟨y,k,n,rfl,hev,rfl⟩,hk⟩
  cases hk:y.k<;>rw [hk] at h2<;>first|exact h2.elim|skip
  case sl e =>
   obtain ⟨te,hte,h3⟩:=withT_out h2
   have oke:=G.T e te hte
   have h4:=withV_out hr h3
   cases hv:a.eval x<;>rw [hv] at h4<;>first|exact h4.elim|skip
   rename_i b len cap
   obtain ⟨hnm,h5⟩:=mxOk_out h4
   obtain ⟨flo,elo,h6⟩:=opt h5
   obtain ⟨fhi,ehi,h7⟩:=opt h6
   obtain ⟨fmx,emx,l,hh,m,h1m,h2h,h3l,hkk⟩:=opt h7
   refine val (s:=Instr.sliceAt t (a.eval x) (lo.map a.eval) (hi.map a.eval) (mx.map a.eval)) hkk (fun w' => ?_) (fun w'=>rfl)
   simp only [hv,Instr.sliceAt,Instr.slice,Sem.run_bind,ok.run_sl hk,Result.andThen_ok,run_bounds true len cap hnm elo ehi emx h1m h2h h3l,oke.run_size,Sem.run_pure,Ent.val,slA]
  case arr n e =>
   obtain ⟨te,hte,h3⟩:=withT_out h2
   have oke:=G.T e te hte
   obtain ⟨p,hp,h4⟩:=withP_out hr h3
   obtain ⟨hnm,h5⟩:=mxOk_out h4
   obtain ⟨flo,elo,h6⟩:=opt h5
   obtain ⟨fhi,ehi,h7⟩:=opt h6
   obtain ⟨fmx,emx,l,hh,m,h1m,h2h,h3l,hkk⟩:=opt h7
   refine val (s:=Instr.sliceAt t (a.eval x) (lo.map a.eval) (hi.map a.eval) (mx.map a.eval)) hkk (fun w' => ?_) (fun w'=>rfl)
   simp only [hp,Instr.sliceAt,Instr.sureAddr,Sem.run_bind,ok.run_arr hk,Result.andThen_ok,run_bounds false n n hnm elo ehi emx h1m h2h h3l,oke.run_size,Sem.run_pure,Ent.val]
 case fieldAddr t x f =>
  dsimp only [opE] at h
  obtain ⟨y,hy,h2⟩:=withT_out h
  obtain ⟨d,hd, -,h3⟩:=(G.T t y hy).und
  cases hk:y.k<;>rw [hk] at h2 h3<;>first|exact h2.elim|skip
  rename_i fs
  obtain ⟨fields,rfl,hlen,hf⟩:=h3
  simp only at h2
  cases hfs:fs[f]? with
  | none=>rw [hfs] at h2;exact h2.elim
  | some oz =>
   obtain ⟨o,z,g⟩:=oz
   rw [hfs] at h2
   obtain ⟨fd,i,du,e1,e2,e3,e4, -, -⟩:=hf f o z g hfs
   cases z with
   | zero=>exact h2.elim
   | succ z =>
    obtain ⟨p,hp,h4⟩:=withP_out hr h2
    refine val (s:=Instr.fieldAt t (a.eval x) f) h4 (fun w' => ?_) (fun w'=>rfl)
    simp [Instr.fieldAt,run_und hd,e1,hp,Instr.sureAddr,fieldPlace,sizeOf,typeInfo,e3,e4,e2,Ent.val]
 case field t x f =>
  dsimp only [opE] at h
  obtain ⟨y,hy,h2⟩:=withT_out h
  obtain ⟨d,hd, -,h3⟩:=(G.T t y hy).und
  cases hk:y.k<;>rw [hk] at h2 h3<;>first|exact h2.elim|skip
  rename_i fs
  obtain ⟨fields,rfl,hlen,hf⟩:=h3
  simp only at h2
  cases hfs:fs[f]? with
  | none=>rw [hfs] at h2;exact h2.elim
  | some oz =>
   obtain ⟨o,z,g⟩:=oz
   rw [hfs] at h2
   obtain ⟨fd,i,du,e1,e2,e3,e4,e5,e6⟩:=hf f o z g hfs
   have h4:=withV_out hr h2
   cases hv:a.eval x<;>rw [hv] at h4<;>first|exact h4.elim|skip
   rename_i cs
   have hagg:∀w',(isAgg fd.type).run C.P w' = .ok g w':=fun w'=>by
    rw [isAgg,Sem.run_bind,run_und e5,Result.andThen_ok]
    cases du<;>simp_all
   cases g with
   | false =>
    simp only [fldE] at h4
    cases hc:cs.toList[o]? with
    | none=>rw [hc] at h4;exact h4.elim
    | some v =>
     rw [hc] at h4
     refine val (s:=Instr.field t (a.eval x) f) h4 (fun w' => ?_) (fun w'=>rfl)
     have hc':cs[o]? = some v:=by simpa using hc
     simp [Instr.field,run_und hd,e1,hv,asAgg,part,hagg,e2,hc',Ent.val]
   | true =>
    obtain ⟨hb,h5⟩:=cond_out h4
    refine val (s:=Instr.field t (a.eval x) f) h5 (fun w' => ?_) (fun w'=>rfl)
    simp only [Instr.field,run_und hd,e1,hv,asAgg,part,hagg,e2,Sem.run_bind,Result.andThen_ok,sizeOf,typeInfo,run_program,e3,e4,Ent.val,Sem.run_pure,if_true]
    congr 2
    apply Array.ext'
    simp [List.take_drop]
 case indexAddr t x i =>
  dsimp only [opE] at h
  obtain ⟨y,hy,h2⟩:=withT_out h
  have ok:=G.T t y hy
  have h3:=withV_out hr h2
  cases hi:a.eval i<;>rw [hi] at h3<;>first|exact h3.elim|skip
  rename_i ki n
  cases hk:y.k<;>rw [hk] at h3<;>first|exact h3.elim|skip
  case sl e =>
   obtain ⟨te,hte,h4⟩:=withT_out h3
   have oke:=G.T e te hte
   have h5:=withV_out hr h4
   cases hv:a.eval x<;>rw [hv] at h5<;>first|exact h5.elim|skip
   rename_i b len cap
   obtain ⟨p,hb,k,hn,hlt,hkk⟩:=h5
   simp only at hb hlt
   subst hb
   refine val (s:=Instr.indexAt t (a.eval x) (a.eval i)) hkk (fun w' => ?_) (fun w'=>rfl)
   subst hn
   simp only [Instr.indexAt,hi,hv,asIntOf,Sem.run_bind,Sem.run_pure,Result.andThen_ok,ok.run_sl hk]
   rw [if_pos (by omega)]
   simp [oke.run_size,Ent.val]
  case arr m e =>
   obtain ⟨te,hte,h4⟩:=withT_out h3
   have oke:=G.T e te hte
   obtain ⟨p,hp,k,hn,hlt,hkk⟩:=withP_out hr h4
   refine val (s:=Instr.indexAt t (a.eval x) (a.eval i)) hkk (fun w' => ?_) (fun w'=>rfl)
   subst hn
   simp only [Instr.indexAt,hi,hp,asIntOf,Sem.run_bind,Sem.run_pure,Result.andThen_ok,ok.run_arr hk,Instr.sureAddr]
   rw [if_pos (by omega)]
   simp [oke.run_size,Ent.val]
 case index t x i =>
  dsimp only [opE] at h
  have h2:=withV_out hr h
  cases hi:a.eval i<;>rw [hi] at h2<;>first|exact h2.elim|skip
  rename_i ki n
  obtain ⟨y,hy,h3⟩:=withT_out h2
  have ok:=G.T t y hy
  obtain ⟨d,hd, -,h4⟩:=ok.und
  cases hk:y.k<;>rw [hk] at h3 h4<;>first|exact h3.elim|skip
  case str =>
   have h5:=withV_out hr h3
   cases hv:a.eval x<;>rw [hv] at h5<;>first|exact h5.elim|skip
   rename_i s
   obtain ⟨k,hn,hlt,hkk⟩:=h5
   refine val (s:=Instr.index t (a.eval x) (a.eval i)) hkk (fun w' => ?_) (fun w'=>rfl)
   subst hn
   simp only at h4
   subst h4
   have hs:s[(k:Int).toNat]? = some s[k]:=by
    rw [Int.toNat_natCast]
    exact getElem?_pos s k hlt
   simp only [Instr.index,hi,hv,asIntOf,Sem.run_bind,Sem.run_pure,Result.andThen_ok,run_und hd]
   rw [if_pos (by omega),hs]
   simp [Ent.val]
  case arr m e =>
   have h5:=withV_out hr h3
   cases hv:a.eval x<;>rw [hv] at h5<;>first|exact h5.elim|skip
   rename_i cs
   obtain ⟨te,hte,h6⟩:=withT_out h5
   have oke:=G.T e te hte
   cases hg:te.tg with
   | c g =>
    rw [hg] at h6
    obtain ⟨k,hn,hlt,z,hz,hkk⟩:=h6
    refine val (s:=Instr.index t (a.eval x) (a.eval i)) hkk (fun w' => ?_) (fun w'=>rfl)
    subst hn
    have hagg:=oke.run_agg w'
    rw [hg] at hagg
    have hsz:=oke.one g hg
    simp only at h4
    subst h4
    simp only [Instr.index,hi,hv,asIntOf,Sem.run_bind,Sem.run_pure,Result.andThen_ok,run_und hd]
    rw [if_pos (by omega)]
    simp only [Sem.run_bind,oke.run_size,Result.andThen_ok,part,hagg,hsz,Int.toNat_natCast,Nat.mul_one,hz,Tg.isAgg,Bool.false_eq_true,if_false,Sem.run_pure,Ent.val]
   | _=>rw [hg] at h6;exact h6.elim
 case extract t i =>
  obtain ⟨e,he,hk⟩:=withE_out hr h
  cases e with
  | tp gs r =>
   cases hn:nthE gs r i with
   | none=>simp only [hn] at hk;exact hk.elim
   | some e2 =>
    simp only [hn] at hk
    refine val (s:=Instr.extract (a.eval t) i) hk (fun w' => ?_) (fun w'=>rfl)
    have:=nthE_out hn
    simp [he,Ent.val,Instr.extract,this]
  | v v =>
   cases v<;>first|exact hk.elim|skip
   rename_i vs
   cases hn:vs.toList[i]? with
   | none=>simp only [hn] at hk;exact hk.elim
   | some v2 =>
    simp only [hn] at hk
    refine val (s:=Instr.extract (a.eval t) i) hk (fun w' => ?_) (fun w'=>rfl)
    have:vs[i]? = some v2:=by simpa using hn
    simp [he,Ent.val,Instr.extract,this]
  | _=>exact hk.elim
 case build t ps =>
  dsimp only [opE] at h
  obtain ⟨y,hy,h2⟩:=withT_out (withParts_out hr h)
  have ok:=G.T t y hy
  obtain ⟨it,hit, -, -,hz⟩:=ok.info
  obtain ⟨d,hd, -,h4⟩:=ok.und
  cases hzz:y.zero with
  | none=>rw [hzz] at h2;exact h2.elim
  | some zs =>
   rw [hzz] at h2
   obtain ⟨zv,hzv,hzc, -⟩:=hz zs hzz
   have fin:∀l',C.P.built t (ps.toList.map fun p=>(p.1,a.eval p.2))=some ⟨l'⟩→κ (.v (.agg ⟨l'⟩)) w →
     ∃e:Ent,κ e w∧∀w',(execOp a.eval ⟨dst,.build t ps,type,pos,after,guard⟩).run C.P w' = .ok (.value e.val) w':=fun l' hb hk =>
    val (s:=Instr.build t (ps.map fun (i,x)=>(i,a.eval x))) hk (fun w'=>run_build w' t _ _ (by simpa using hb)) (fun w'=>rfl)
   cases hk:y.k<;>rw [hk] at h2 h4<;>first|exact h2.elim|skip
   case st fs =>
    obtain ⟨fields,rfl,hlen,hf⟩:=h4
    obtain ⟨l',hl,hkk⟩:=fillE_out h2
    refine fin l' ?_ hkk
    have hp:=places_of (P:=C.P) fields.toList fs (by simpa using hlen) (fun f o z g hfs=>by
     obtain ⟨fd,i,du,e1,e2,e3,e4, -⟩:=hf f o z g hfs
     exact ⟨fd,i,by simpa using e1,e2,e3,e4⟩)
    simp only [Program.built,hit,hd,hzv,hp,hzc]
    rw [←hl]
    congr 1
    funext i
    simp
   case arr n e =>
    obtain ⟨te,hte,h5⟩:=withT_out h2
    obtain ⟨ie,hie,hies, -⟩:=(G.T e te hte).info
    obtain ⟨l',hl,hkk⟩:=fillE_out h5
    refine fin l' ?_ hkk
    simp only at h4
    subst h4
    simp only [Program.built,hit,hd,hzv,hie,hzc,hies]
    rw [←hl]
    rfl
 case call c =>
  obtain ⟨callee,args,argTypes⟩:=c
  cases callee with
  | builtin b =>
   have fin:∀ {s:Sem Value} {e:Ent},κ e w→(∀w',s.run C.P w' = .ok e.val w')→(∀w',(builtin b argTypes type (args.map fun | .const _=>true|_=>false) (args.map a.eval)).run C.P w'=(do pure (.value (←s)):Sem Next).run C.P w') →
     ∃e:Ent,κ e w∧∀w',(execOp a.eval ⟨dst,.call ⟨.builtin b,args,argTypes⟩,type,pos,after,guard⟩).run C.P w' = .ok (.value e.val) w':=fun {s e} hk h1 h2 =>
    val hk h1 (fun w'=>by rw [←h2];rfl)
   obtain ⟨args⟩:=args
   obtain ⟨tys⟩:=argTypes
   cases b<;>first|(simp [wl] at hw;done)|skip
   case len =>
    simp only [opE,callE] at h
    rcases args with _|⟨x,_|⟨x2,args⟩⟩<;>rcases tys with _|⟨t,_|⟨t2,tys⟩⟩<;>first|exact h.elim|skip
    obtain ⟨y,hy,h2⟩:=withT_out h
    cases hk:y.k<;>rw [hk] at h2<;>first|exact h2.elim|skip
    have h3:=withV_out hr h2
    cases hv:a.eval x<;>rw [hv] at h3<;>first|exact h3.elim|skip
    refine fin (s:=Builtin.len_ #[t] type #[a.eval x]) h3 (fun w' => ?_) (fun w'=>by rw [show (⟨[x]⟩:Array Operand) = #[x] from rfl];simp [builtin])
    simp [Builtin.len_,(G.T t y hy).run_sl hk,hv,Ent.val,goInt]
   case cap =>
    simp only [opE,callE] at h
    rcases args with _|⟨x,_|⟨x2,args⟩⟩<;>rcases tys with _|⟨t,_|⟨t2,tys⟩⟩<;>first|exact h.elim|skip
    obtain ⟨y,hy,h2⟩:=withT_out h
    cases hk:y.k<;>rw [hk] at h2<;>first|exact h2.elim|skip
    have h3:=withV_out hr h2
    cases hv:a.eval x<;>rw [hv] at h3<;>first|exact h3.elim|skip
    refine fin (s:=Builtin.cap_ #[t] type #[a.eval x]) h3 (fun w' => ?_) (fun w'=>by rw [show (⟨[x]⟩:Array Operand) = #[x] from rfl];simp [builtin])
    simp [Builtin.cap_,(G.T t y hy).run_sl hk,hv,Ent.val,goInt]
   case max =>
    simp only [opE,callE] at h
    rcases args with _|⟨x,_|⟨x2,_|⟨x3,args⟩⟩⟩<;>first|exact h.elim|skip
    have h3:=withV_out hr (withV_out hr h)
    cases hv:a.eval x<;>rw [hv] at h3<;>first|exact h3.elim|skip
    cases hu:a.eval x2<;>rw [hu] at h3<;>first|exact h3.elim|skip
    refine fin (s:=Builtin.max_ ⟨tys⟩ type #[a.eval x,a.eval x2]) h3 (fun w' => ?_) (fun w'=>by rw [show (⟨[x,x2]⟩:Array Operand) = #[x,x2] from rfl];simp [builtin])
    simp [Builtin.max_,Builtin.max2,hv,hu,Ent.val,maxI]
   case min =>
    simp only [opE,callE] at h
    rcases args with _|⟨x,_|⟨x2,_|⟨x3,args⟩⟩⟩<;>first|exact h.elim|skip
    have h3:=withV_out hr (withV_out hr h)
    cases hv:a.eval x<;>rw [hv] at h3<;>first|exact h3.elim|skip
    cases hu:a.eval x2<;>rw [hu] at h3<;>first|exact h3.elim|skip
    refine fin (s:=Builtin.min_ ⟨tys⟩ type #[a.eval x,a.eval x2]) h3 (fun w' => ?_) (fun w'=>by rw [show (⟨[x,x2]⟩:Array Operand) = #[x,x2] from rfl];simp [builtin])
    simp [Builtin.min_,Builtin.min2,hv,hu,Ent.val,minI]
  | _=>exact absurd hw (by simp [wl])
 all_goals (exact absurd hw (by simp [wl]))
end
theorem one_cell' (v:Value):v.oneCell'=one v:=by cases v<;>rfl
theorem run_store1 {P:Program} {w:World} {p:Addr} {v:Value} (h1:one v=true) (h2:canSt w p):(store p v).run P w = .ok () (w.setCell p v):=by
 obtain ⟨⟨u,hu⟩,hf⟩:=h2
 rw [run_store P w p v .plain (by rw [one_cell'];exact h1),hu]
 simp [hf]
theorem stL_run {P:Program} {p:Addr} {κ:PT} : ∀ {l:List Value} {i:Nat} {w:World},stL p i l κ w→(storeCells p l i).run P w = .ok () (setL w p i l)∧κ (setL w p i l)
 | [],_,_,h=>⟨rfl,h⟩
 | v::r,i,w,h=>by
  obtain ⟨h1,h2,h3⟩:=h
  have ih:=stL_run (P:=P) h3
  refine ⟨?_,ih.2⟩
  simp only [storeCells,Sem.run_bind,run_store1 h1 h2,Result.andThen_ok,ih.1]
  rfl
theorem canSt_set {w:World} {p q:Addr} {v:Value} (h:canSt w q):canSt (w.setCell p v) q:=by
 obtain ⟨⟨u,hu⟩,hf⟩:=h
 refine ⟨?_,?_⟩
 ·by_cases e:p=q
  ·subst e
   exact ⟨v,World.cell?_setCell_same w p v hu⟩
  ·exact ⟨u,by rw [World.cell?_setCell_other w p q v e];exact hu⟩
 ·rw [World.frozen?_setCell,hf]
theorem storeAll_run {P:Program} {p:Addr} : ∀ {l:List Value} {i:Nat} {w:World},(∀j v,l[j]? = some v→one v=true∧canSt w (p.add (i+j)))→(storeCells p l i).run P w = .ok () (setL w p i l)
 | [],_,_,_=>rfl
 | v::r,i,w,h=>by
  obtain ⟨h1,h2⟩:=h 0 v rfl
  have ih:=storeAll_run (P:=P) (p:=p) (l:=r) (i:=i+1) (w:=w.setCell (p.add i) v) (fun j u hj=>by
   obtain ⟨h3,h4⟩:=h (j+1) u hj
   exact ⟨h3,canSt_set (by rwa [Nat.add_assoc,Nat.add_comm 1 j])⟩)
  simp only [storeCells,Sem.run_bind,run_store1 h1 (by simpa using h2:canSt w (p.add i)),Result.andThen_ok,ih]
  rfl
theorem stT_run {P:Program} {t:TypeId} {y:TyI} (ok:TyOk P t y) {p:Addr} {v:Value} {κ:PT} {w:World} (h:stT y.tg p v κ w) :
  ∃w',(storeVar t p v).run P w = .ok () w'∧κ w':=by
 obtain ⟨d,hd,h2, -⟩:=ok.und
 unfold storeVar
 have hsz:=ok.run_size w
 cases hg:y.tg with
 | c g =>
  rw [hg] at h
  obtain ⟨h1,h3,h4⟩:=h
  have h5:=ok.one g hg
  have hc:v.cells = #[v]:=by cases v<;>first|rfl|(exact absurd h1 (by simp [one]))
  refine ⟨_,?_,h4⟩
  rw [Sem.run_bind,hsz,Result.andThen_ok,hc,h5]
  have h6:p.add 0=p:=by simp [Addr.add]
  simp [storeCells,h6,run_store1 h1 h3]
 | m ts =>
  rw [hg] at h h2
  cases v<;>first|exact h.elim|skip
  rename_i cs
  obtain ⟨h3,h4⟩:=cond_out h
  obtain ⟨h5,h6⟩:=stL_run (P:=P) h4
  have h7:cs.size=y.size:=by have:=Nat.eq_of_beq_eq_true h3;have:=h2.2;simp at *;omega
  refine ⟨_,?_,h6⟩
  rw [Sem.run_bind,hsz,Result.andThen_ok]
  simp [Value.cells,h7,h5]
 | a n =>
  rw [hg] at h h2
  cases v<;>first|exact h.elim|skip
  rename_i cs
  obtain ⟨h3,h4,h5⟩:=h
  refine ⟨_,?_,h5⟩
  have h7:cs.size=y.size:=by have:=h2.2;omega
  rw [Sem.run_bind,hsz,Result.andThen_ok]
  have:=storeAll_run (P:=P) (p:=p) (l:=cs.toList) (i:=0) (w:=w) (fun j v hj=>by simpa using h4 j v (by simpa using hj))
  simp [Value.cells,h7,this]
 | q=>rw [hg] at h;exact h.elim
theorem rep_flat (zs:List Value):∀n,((List.replicate n zs).flatten).toArray=(Array.range (n*zs.length)).map fun i=>zs.toArray[i%zs.toArray.size]! := by
 have key:∀n i,i<n*zs.length→((List.replicate n zs).flatten)[i]? = zs[i%zs.length]? := by
  intro n
  induction n with
  | zero=>intro i h;omega
  | succ n ih =>
   intro i h
   simp only [List.replicate_succ,List.flatten_cons]
   by_cases hi:i<zs.length
   ·rw [List.getElem?_append_left hi,Nat.mod_eq_of_lt hi]
   ·rw [List.getElem?_append_right (by omega),ih (i-zs.length) (by rw [Nat.succ_mul] at h;omega)]
    congr 1
    rw [←Nat.mod_eq_sub_mod (by omega)]
 intro n
 apply Array.ext'
 apply List.ext_getElem?
 intro i
 by_cases hi:i<n*zs.length
 ·have hz:0<zs.length:=by
   rcases Nat.eq_zero_or_pos zs.length with h|h
   ·rw [h] at hi;omega
   ·exact h
  have hm:=Nat.mod_lt i hz
  rw [List.toList_toArray,key n i hi]
  simp [hi,hm]
 ·have h0:((List.replicate n zs).flatten).length=n*zs.length:=by simp [List.length_flatten]
  have h1:((List.replicate n zs).flatten).length≤i:=by omega
  rw [List.toList_toArray,List.getElem?_eq_none h1]
  symm
  apply List.getElem?_eq_none
  simp
  omega
theorem firstCells_run {P:Program} {size n:Nat} {a:Option Addr} {l c:Nat} {xs:List Value} {w:World} (hl:xs.length=n*size)
  (h1:∀b,a=some b→∀i,i<xs.length→w.cell? (b.add i)=xs[i]?) (h2:a=none→xs = []):(Builtin.firstCells size n (.slice a l c)).run P w = .ok xs.toArray w:=by
 cases a with
 | none=>rw [h2 rfl];rfl
 | some b =>
  have:=run_loadCells_list (P:=P) w b xs (fun j v hj=>by
   have hlt:=(List.getElem?_eq_some_iff.1 hj).1
   rw [h1 b rfl j hlt,hj])
  rw [hl] at this
  simpa [Builtin.firstCells] using this
theorem growBy_le (newLen:Nat):∀r c,c≤newLen+(newLen+768)/4→Builtin.growBy newLen r c≤newLen+(newLen+768)/4
 | 0,c,h=>h
 | r+1,c,h=>by
  unfold Builtin.growBy
  split
  ·exact h
  ·exact growBy_le newLen r _ (by omega)
theorem next_le {need cap:Nat} (h:cap<need):Builtin.nextslicecap need cap≤2*need+192:=by
 unfold Builtin.nextslicecap
 split
 ·omega
 ·split
  ·omega
  ·have:=growBy_le need 4 cap (by omega)
   omega
theorem zeroCells_rep (zs:List Value) (n:Nat):Builtin.zeroCells zs.toArray n=zrep zs n:=by
 simp [Builtin.zeroCells,zrep]
section
variable {C:Ctx} {w:World}
theorem app_run (G:Good C) {t u e ty:TypeId} {yt yu te:TyI} (ht:C.T.get t=some yt) (hk:yt.k = .sl e) (hu:C.T.get u=some yu) (hku:∃e',yu.k = .sl e') (hte:C.T.get e=some te)
  {zs:List Value} (hz:te.zero=some zs) (hb1:1≤te.bytes) (hb2:te.bytes≤1000000) {s x:Sl} {κ:Sl→PT} (h:app zs e te.bytes s x κ w) :
  ∃(r:Sl) (w':World),(Builtin.append_ #[t,u] ty #[.slice s.a s.l s.c,.slice x.a x.l x.c]).run C.P w = .ok (.slice r.a r.l r.c) w'∧κ r w':=by
 obtain ⟨hb,hroom,hgrow⟩:=h
 have okt:=G.T t yt ht
 have oku:=G.T u yu hu
 have oke:=G.T e te hte
 obtain ⟨e',hku⟩:=hku
 obtain ⟨zv,hzv,hzc,hzl⟩:=oke.run_zero hz w
 have hsize:te.size=zs.length:=hzl.symm
 unfold Builtin.append_
 simp only [List.getElem?_toArray,List.getElem?_cons_zero,List.getElem?_cons_succ,Sem.run_bind,okt.run_sl hk,oke.run_size,oku.run_sl hku,Result.andThen_ok,Sem.run_pure,Bool.false_eq_true,if_false,Builtin.lenOf,Bool.not_false,if_true,Sem.run_ite]
 by_cases hr:s.l+x.l≤s.c
 ·rw [if_pos hr]
  obtain ⟨xs,hxl,hx1,hx2,hone,hst⟩:=hroom hr
  rw [firstCells_run (by rw [hxl,hsize]) hx1 hx2,Result.andThen_ok]
  cases hsa:s.a with
  | none =>
   rw [hsa] at hst
   exact ⟨⟨none,s.l+x.l,s.c⟩,w,by simp,hst⟩
  | some b =>
   rw [hsa] at hst
   obtain ⟨hcan,hk2⟩:=hst
   refine ⟨⟨some b,s.l+x.l,s.c⟩,_,?_,hk2⟩
   have:=storeAll_run (P:=C.P) (p:=b.add (s.l*te.size)) (l:=xs) (i:=0) (w:=w) (fun j v hj=>by
    have hlt:=(List.getElem?_eq_some_iff.1 hj).1
    refine ⟨hone v (List.mem_of_getElem? hj),?_⟩
    rw [Nat.zero_add,hsize]
    exact hcan j hlt)
   rw [hsize] at this
   simp only [Sem.run_bind,this,Result.andThen_ok,Sem.run_pure,hsize]
 ·rw [if_neg hr]
  obtain ⟨os,xs,hol,ho1,ho2,hxl,hx1,hx2,hnew⟩:=hgrow (by omega)
  obtain ⟨i,hi, -,hib⟩:=oke.run_info w
  have hneed:s.l+x.l≤2^46:=by
   refine Nat.le_trans ?_ hb
   exact Nat.le_mul_of_pos_right _ hb1
  have hnext:=next_le (need:=s.l+x.l) (cap:=s.c) (by omega)
  have hcap:Builtin.nextslicecap (s.l+x.l) s.c*te.bytes≤2^48:=by
   refine Nat.le_trans (Nat.mul_le_mul_right te.bytes hnext) ?_
   rw [Nat.add_mul,Nat.mul_assoc]
   have:192*te.bytes≤192000000:=by omega
   omega
  have hi2:∀w',(typeInfo e).run C.P w' = .ok i w':=fun w'=>by
   obtain ⟨i2,hi2, -⟩:=oke.info
   have h1:(typeInfo e).run C.P w = .ok i2 w:=by simp [typeInfo,hi2]
   rw [hi] at h1
   injection h1 with h1
   subst h1
   simp [typeInfo,hi2]
  have hzv2:∀w',(zeroValue e).run C.P w' = .ok zv w':=fun w'=>by
   obtain ⟨zv2,hzv2, -⟩:=oke.run_zero hz w'
   obtain ⟨i2,e2, -, -,hz2⟩:=oke.info
   obtain ⟨v3,hv3, -⟩:=hz2 zs hz
   have h1:(zeroValue e).run C.P w = .ok v3 w:=by simp [zeroValue,typeInfo,e2,hv3]
   rw [hzv] at h1
   injection h1 with h1
   subst h1
   simp [zeroValue,typeInfo,e2,hv3]
  have hcell:∀(w':World) (q:Addr),({ w with drawn:=w.drawn+1 } : World).cell? q=w.cell? q:=fun _ _=>rfl
  have hf1:=firstCells_run (P:=C.P) (w:=w.drew) (size:=te.size) (n:=s.l) (a:=s.a) (l:=s.l) (c:=s.c) (by rw [hol,hsize]) (fun b hb i hi=>ho1 b hb i hi) ho2
  have hf2:=firstCells_run (P:=C.P) (w:=w.drew) (size:=te.size) (n:=x.l) (a:=x.a) (l:=x.l) (c:=x.c) (by rw [hxl,hsize]) (fun b hb i hi=>hx1 b hb i hi) hx2
  generalize hcc:(Question.appendCap (s.l+x.l) s.c e).cut (w.tape w.drawn (Question.appendCap (s.l+x.l) s.c e))=cc
  have hcc1:s.l+x.l≤cc∧cc<2^63:=by
   rw [←hcc]
   simp only [Question.cut]
   have:0<2^63-(s.l+x.l):=by omega
   have:=Nat.mod_lt (w.tape w.drawn (Question.appendCap (s.l+x.l) s.c e)) this
   omega
  refine ⟨⟨some ⟨w.heap.size,0,none⟩,s.l+x.l,cc⟩,_,?_,hnew cc hcc1.1 hcc1.2⟩
  have e1:({ w with drawn:=w.drawn+1 } : World)=w.drew:=rfl
  simp only [hi2,Result.andThen_ok]
  rw [if_neg (by rintro ⟨-,h|h⟩<;>first|cases h|omega),if_neg (by rw [hib];omega)]
  simp only [run_choose,Question.forced,Bool.false_eq_true,if_false,Result.andThen_ok,run_askRoom,hcc,e1,hf1,hf2,hzv2,newRow,Sem.run_bind,run_newObj,Sem.run_pure,hzc,zeroCells_rep]
  rfl
end
section
variable {C:Ctx} {env:Env} {a:Act} {w:World}
theorem cpy_run (G:Good C) {t u e ty:TypeId} {yt te:TyI} (ht:C.T.get t=some yt) (hk:yt.k = .sl e) (hte:C.T.get e=some te)
  {d s:Sl} {κ:Int→PT} (h:cpy te.size d s κ w) :
  ∃(n:Int) (w':World),(Builtin.copy_ #[t,u] ty #[.slice d.a d.l d.c,.slice s.a s.l s.c]).run C.P w = .ok (.int .i64 n) w'∧κ n w':=by
 obtain ⟨xs,hl,hx1,hx2,hone,h⟩:=h
 have okt:=G.T t yt ht
 have oke:=G.T e te hte
 unfold Builtin.copy_
 simp only [List.getElem?_toArray,List.getElem?_cons_zero,List.getElem?_cons_succ,Sem.run_bind,okt.run_sl hk,oke.run_size,Result.andThen_ok,Sem.run_pure,Builtin.lenOf]
 rw [firstCells_run hl hx1 hx2,Result.andThen_ok]
 cases hd:d.a with
 | none =>
  rw [hd] at h
  exact ⟨_,w,by simp [goInt],h⟩
 | some b =>
  rw [hd] at h
  obtain ⟨hcan,hk2⟩:=h
  refine ⟨_,_,?_,hk2⟩
  have:=storeAll_run (P:=C.P) (p:=b) (l:=xs) (i:=0) (w:=w) (fun j v hj=>by
   have hlt:=(List.getElem?_eq_some_iff.1 hj).1
   exact ⟨hone v (List.mem_of_getElem? hj),by rw [Nat.zero_add];exact hcan j hlt⟩)
  simp only [Sem.run_bind,this,Result.andThen_ok,Sem.run_pure,goInt]
theorem wrap_small {n:Nat} (h:n≤2^47):IntKind.i64.wrap (n:Int)=n:=IntWalk.i64_in _ (by omega)
theorem cond_two {c:Bool} {X Y:PT} {w:World} (h:cond c X Y w):(c=true∧X w)∨Y w:=by
 cases c
 ·exact .inr h
 ·exact .inl ⟨rfl,h⟩
section
variable {C:Ctx} {w:World}
theorem appZ_run (G:Good C) {t u e ty:TypeId} {yt yu te:TyI} (ht:C.T.get t=some yt) (hk:yt.k = .sl e) (hu:C.T.get u=some yu) (hku:yu.tg = .c (.I .i64)) (hte:C.T.get e=some te)
  {zs:List Value} (hz:te.zero=some zs) (hb1:1≤te.bytes) (hb2:te.bytes≤1000000) {s:Sl} {i:Int} {κ:Sl→PT} (h:appZ zs e te.bytes s i κ w) :
  ∃(r:Sl) (w':World),(Builtin.append_ #[t,u] ty #[.slice s.a s.l s.c,.int .i64 i]).run C.P w = .ok (.slice r.a r.l r.c) w'∧κ r w':=by
 obtain ⟨n,hi,hb,hroom,os,hol,ho1,ho2,hnew⟩:=h
 subst hi
 have okt:=G.T t yt ht
 have oku:=G.T u yu hu
 have oke:=G.T e te hte
 obtain ⟨zv,hzv,hzc,hzl⟩:=oke.run_zero hz w
 have hsize:te.size=zs.length:=hzl.symm
 have hneed:s.l+n≤2^46:=by
  refine Nat.le_trans ?_ hb
  exact Nat.le_mul_of_pos_right _ hb1
 have hw64:IntKind.i64.wrap ((n:Nat):Int)=((n:Nat):Int):=wrap_small (by omega)
 obtain ⟨i,hi, -,hib⟩:=oke.run_info w
 have hi2:∀w',(typeInfo e).run C.P w' = .ok i w':=fun w'=>by
  obtain ⟨i2,hi2, -⟩:=oke.info
  have h1:(typeInfo e).run C.P w = .ok i2 w:=by simp [typeInfo,hi2]
  rw [hi] at h1
  injection h1 with h1
  subst h1
  simp [typeInfo,hi2]
 have hnb:n*te.bytes≤2^46:=Nat.le_trans (Nat.mul_le_mul_right _ (by omega)) hb
 have hnbI:¬((2:Int)^48<((n:Nat):Int)*((i.bytes:Nat):Int)):=by
  rw [hib, ←Int.natCast_mul]
  have:(2:Int)^48=((2^48:Nat):Int):=by norm_cast
  rw [this]
  omega
 have hnext:=next_le (need:=s.l+n) (cap:=s.c) hroom
 have hcap:Builtin.nextslicecap (s.l+n) s.c*i.bytes≤2^48:=by
  rw [hib]
  refine Nat.le_trans (Nat.mul_le_mul_right te.bytes hnext) ?_
  rw [Nat.add_mul,Nat.mul_assoc]
  have:192*te.bytes≤192000000:=by omega
  omega
 have hzv2:∀w',(zeroValue e).run C.P w' = .ok zv w':=fun w'=>by
  obtain ⟨zv2,hzv2, -⟩:=oke.run_zero hz w'
  obtain ⟨i2,e2, -, -,hz2⟩:=oke.info
  obtain ⟨v3,hv3, -⟩:=hz2 zs hz
  have h1:(zeroValue e).run C.P w = .ok v3 w:=by simp [zeroValue,typeInfo,e2,hv3]
  rw [hzv] at h1
  injection h1 with h1
  subst h1
  simp [zeroValue,typeInfo,e2,hv3]
 have hf1:=firstCells_run (P:=C.P) (w:=w.drew) (size:=te.size) (n:=s.l) (a:=s.a) (l:=s.l) (c:=s.c) (by rw [hol,hsize]) (fun b hb i hi=>ho1 b hb i hi) ho2
 generalize hcc:(Question.appendCap (s.l+n) s.c e).cut (w.tape w.drawn (Question.appendCap (s.l+n) s.c e))=cc
 have hcc1:s.l+n≤cc∧cc<2^63:=by
  rw [←hcc]
  simp only [Question.cut]
  have:0<2^63-(s.l+n):=by omega
  have:=Nat.mod_lt (w.tape w.drawn (Question.appendCap (s.l+n) s.c e)) this
  omega
 refine ⟨⟨some ⟨w.heap.size,0,none⟩,s.l+n,cc⟩,_,?_,hnew cc hcc1.1 hcc1.2⟩
 have e1:({ w with drawn:=w.drawn+1 } : World)=w.drew:=rfl
 have hmax:IntKind.i64.max=9223372036854775807:=rfl
 have hzz:n*te.size=0→zrep zs n = #[]:=by
  intro h0
  apply Array.eq_empty_of_size_eq_zero
  simp [zrep, ←hsize,h0]
 unfold Builtin.append_
 simp only [List.getElem?_toArray,List.getElem?_cons_zero,List.getElem?_cons_succ,Sem.run_bind,okt.run_sl hk,oke.run_size,oku.run_int hku,Result.andThen_ok,Sem.run_pure,Bool.false_eq_true,if_false,Bool.not_true,if_true,Sem.run_ite,asInt,asIntOf,hw64,hi2]
 rw [if_neg (by omega),if_neg (by exact hnbI)]
 simp only [Int.toNat_natCast]
 rw [if_neg (by omega),if_neg (by rw [hmax];rintro ⟨h, -⟩;omega),if_neg (by omega)]
 simp only [run_choose,Question.forced,Bool.false_eq_true,if_false,Result.andThen_ok,run_askRoom,hcc,e1,hf1,hzv2,newRow,Sem.run_bind,run_newObj,Sem.run_pure,hzc,zeroCells_rep]
 by_cases h0:n*te.size=0
 ·rw [if_pos h0,hzz h0]
  rfl
 ·rw [if_neg h0]
  rfl
end
theorem mks_run (G:Good C) {t e:TypeId} {yt te:TyI} (ht:C.T.get t=some yt) (hk:yt.k = .sl e) (hte:C.T.get e=some te)
  {zs:List Value} (hz:te.zero=some zs) (hb:1≤te.bytes) {k k':IntKind} {l c:Int} {κ:Sl→PT} (h:mks zs e te.bytes l c κ w) :
  ∃(r:Sl) (w':World),(Instr.makeSlice t (.int k l) (.int k' c)).run C.P w = .ok (.slice r.a r.l r.c) w'∧κ r w':=by
 obtain ⟨ln,cn,rfl,rfl,h1,h2,h3⟩:=h
 have okt:=G.T t yt ht
 have oke:=G.T e te hte
 obtain ⟨zv,hzv,hzc,hzl⟩:=oke.run_zero hz w
 obtain ⟨i,hi, -,hib⟩:=oke.run_info w
 have hc:cn≤2^47:=Nat.le_trans (Nat.le_mul_of_pos_right _ hb) h2
 refine ⟨⟨some ⟨w.heap.size,0,none⟩,ln,cn⟩,_,?_,h3⟩
 unfold Instr.makeSlice
 simp only [Sem.run_bind,okt.run_sl hk,Result.andThen_ok,asInt,asIntOf,Sem.run_pure,hi,hib,wrap_small hc,wrap_small (Nat.le_trans h1 hc),Sem.run_ite]
 have hm:((te.bytes:Int)*(cn:Int))≤2^47:=by
  have:((te.bytes*cn:Nat):Int)≤((2^47:Nat):Int):=by rw [Nat.mul_comm];exact Int.ofNat_le.mpr h2
  simpa using this
 rw [if_neg (by
  simp only [Bool.or_eq_true,decide_eq_true_eq,not_or,Int.not_lt,gt_iff_lt]
  refine ⟨⟨⟨by omega,by omega⟩,by omega⟩,by omega⟩)]
 simp only [run_askRoom,Result.andThen_ok,oke.run_size,Int.toNat_natCast]
 by_cases hn:cn*te.size=0
 ·simp only [hn,if_true,Result.andThen_ok,newRow,Sem.run_bind,run_newObj,Sem.run_pure]
  have:zrep zs cn=(Array.range 0).map fun i=>(#[]:Array Value)[i%(#[]:Array Value).size]! := by
   rw [zrep,hzl,hn]
   simp
  rw [this]
  rfl
 ·rw [if_neg hn]
  simp only [Sem.run_bind,hzv,Result.andThen_ok,Sem.run_pure,hzc,newRow,run_newObj]
  have:zrep zs cn=(Array.range (cn*te.size)).map fun i=>zs.toArray[i%zs.toArray.size]! := by
   rw [zrep,hzl]
   simp [hzl]
  rw [this]
  rfl
theorem runs_new {P:Program} {T:TypeId} {v:Value} : (newVar T v).run P w = .ok ⟨w.heap.size,0,none⟩ (w.alloc (.cells v.cells T)):=rfl
theorem op_wp (G:Good C) {o:Oper} (hr:Rep env a) {κ:Ent→PT} {next:Act→World→Prop} {Q:Exit→Act→World→Prop}
  (hn:∀e w',κ e w'→next (a.put o.dst e.val) w') (h:opE C o.op env κ w):o.wp C.P a w next Q:=by
 have okv:∀ {e:Ent} {w':World},(execOp a.eval o).run C.P w = .ok (.value e.val) w'→κ e w'→o.wp C.P a w next Q:=fun {e w'} h1 h2=>by
  unfold Oper.wp
  rw [h1]
  exact hn e w' h2
 cases hl:(match o.op with | .load .. => true|_=>false) with
 | false =>
  cases hw:wl C o.op with
  | true =>
   obtain ⟨e,hk,hrun⟩:=wl_run G hr hw (fun t x e=>by rw [e] at hl;cases hl) h
   exact okv (hrun w) hk
  | false =>
   obtain ⟨dst,op,type,pos,after,guard⟩:=o
   cases op<;>first|(cases hw;done)|exact h.elim|skip
   case alloc t =>
    obtain ⟨y,hy,h2⟩:=withT_out h
    cases hz:y.zero with
    | none=>rw [hz] at h2;exact h2.elim
    | some zs =>
     rw [hz] at h2
     obtain ⟨v,hv,hc, -⟩:=(G.T t y hy).run_zero hz w
     refine okv (e := .pt _) ?_ h2
     simp [execOp,Instr.alloc,hv,runs_new,hc,Ent.val]
   case box t x =>
    dsimp only [opE] at h
    obtain ⟨y,hy,h2⟩:=withT_out (withV_out hr h)
    cases hg:y.tg with
    | c g =>
     rw [hg] at h2
     obtain ⟨h3,h4⟩:=cond_out h2
     have hc:(a.eval x).cells = #[a.eval x]:=by cases hv:a.eval x<;>first|rfl|(rw [hv] at h3;exact absurd h3 (by simp [one]))
     refine okv (e := .pt _) ?_ h4
     simp [execOp,Instr.box,runs_new,hc,Ent.val]
    | m ts =>
     rw [hg] at h2
     cases hv:a.eval x<;>rw [hv] at h2<;>first|exact h2.elim|skip
     refine okv (e := .pt _) ?_ h2
     simp [execOp,Instr.box,runs_new,hv,Value.cells,Ent.val]
    | a n =>
     rw [hg] at h2
     cases hv:a.eval x<;>rw [hv] at h2<;>first|exact h2.elim|skip
     refine okv (e := .pt _) ?_ h2
     simp [execOp,Instr.box,runs_new,hv,Value.cells,Ent.val]
    | q=>rw [hg] at h2;exact h2.elim
   case buildSlice t n ps =>
    dsimp only [opE] at h
    obtain ⟨y,hy,h2⟩:=withT_out (withParts_out hr h)
    cases hk:y.k<;>rw [hk] at h2<;>first|exact h2.elim|skip
    rename_i e
    obtain ⟨te,hte,h3⟩:=withT_out h2
    cases hz:te.zero with
    | none=>rw [hz] at h3;exact h3.elim
    | some zs =>
     rw [hz] at h3
     obtain ⟨h4,h5⟩:=cond_out h3
     have hle:n*te.size≤1000000:=Nat.ble_eq.mp h4
     obtain ⟨l',hl,hkk⟩:=fillE_out h5
     have okt:=G.T t y hy
     have oke:=G.T e te hte
     obtain ⟨zv,hzv,hzc,hzl⟩:=oke.run_zero hz w
     refine okv (e := .v (.slice (some ⟨w.heap.size,0,none⟩) n n)) ?_ hkk
     have hbase:(Array.range (n*te.size)).map (fun i=>(if n*te.size=0 then (#[]:Array Value) else zs.toArray)[i%(if n*te.size=0 then (#[]:Array Value) else zs.toArray).size]!)=((List.replicate n zs).flatten).toArray:=by
      by_cases h0:n*te.size=0
      ·rw [if_pos h0,h0]
       have:((List.replicate n zs).flatten) = []:=by
        rcases Nat.mul_eq_zero.mp h0 with h0|h0
        ·subst h0;rfl
        ·have:zs = []:=List.eq_nil_of_length_eq_zero (by omega)
         subst this
         simp
       rw [this]
       simp
      ·rw [if_neg h0,rep_flat,hzl]
     have hfill:Instr.fill (fun i=>some (i*te.size,te.size)) ((Array.range (n*te.size)).map (fun i=>(if n*te.size=0 then (#[]:Array Value) else zs.toArray)[i%(if n*te.size=0 then (#[]:Array Value) else zs.toArray).size]!))
       (ps.map fun (i,x)=>(i,a.eval x)).toList=some ⟨l'⟩:=by
      rw [hbase]
      have e1:(ps.map fun (i,x)=>(i,a.eval x)).toList=ps.toList.map fun p=>(p.1,a.eval p.2):=by simp
      rw [e1, ←hl]
      rfl
     simp only [execOp,Instr.buildSlice,Sem.run_bind,okt.run_sl hk,Result.andThen_ok,oke.run_size,Sem.run_ite,hzv,Sem.run_pure,hzc]
     rw [if_neg (by omega)]
     by_cases h0:n*te.size=0
     ·simp only [h0,if_true] at hfill ⊢
      simp only [Result.andThen_ok,hfill,newRow,Sem.run_bind,run_newObj,Sem.run_pure,Ent.val]
      rfl
     ·simp only [if_neg h0] at hfill ⊢
      simp only [Result.andThen_ok,hfill,newRow,Sem.run_bind,run_newObj,Sem.run_pure,Ent.val]
      rfl
   case binOp op t x y yt =>
    dsimp only [opE] at h
    have h1:=withV_out hr (withV_out hr h)
    cases op<;>first|(cases hw;done)|skip
    simp only [wl,Bool.or_eq_false_iff] at hw
    simp only [hw.1] at h1
    obtain ⟨ty,hty,h2⟩:=withT_out h1
    have hw2:=hw.2
    rw [hty] at hw2
    cases hg:ty.tg with
    | c g =>
     rw [hg] at h2
     simp only [hg] at hw2
     cases g<;>first|(cases hw2;done)|skip
     cases hk:ty.k<;>rw [hk] at h2<;>first|exact h2.elim|skip
     obtain ⟨hcx,b,hrun,hkk⟩:isCst x=false∧eqE C t (a.eval x) (a.eval y) (fun b=>κ (.v (.bool b))) w:=by
      cases hx:isCst x with
      | true=>rw [hx] at h2;exact h2.elim
      | false=>rw [hx] at h2;exact ⟨rfl,h2⟩
     refine okv (e := .v (.bool b)) ?_ hkk
     have e1:(eqGuard .eql t x y (a.eval x) (a.eval y))=eqGuard .eql t (.tmp 0) (.tmp 0) (a.eval x) (a.eval y):=by
      have hy:=hw.1
      cases x<;>cases y<;>first|(cases hcx;done)|(cases hy;done)|rfl
     show ((do pure (.value (←(do eqGuard .eql t x y (a.eval x) (a.eval y);binOp .eql t (a.eval x) (a.eval y)))):Sem Next)).run C.P w=_
     rw [e1,Sem.run_bind,hrun]
     rfl
    | _=>rw [hg] at h2;exact h2.elim
   case store t x v =>
    dsimp only [opE] at h
    obtain ⟨p,hp,h2⟩:=withP_out hr h
    obtain ⟨y,hy,h3⟩:=withT_out (withV_out hr h2)
    obtain ⟨w',hrun,hk⟩:=stT_run (G.T t y hy) h3
    have:(execOp a.eval ⟨dst,.store t x v,type,pos,after,guard⟩).run C.P w = .ok .skip w':=by
     simp [execOp,hp,Instr.storeAt,Instr.sureAddr,hrun]
    unfold Oper.wp
    rw [this]
    exact hn (.v undef) w' hk
   case makeSlice t l c =>
    dsimp only [opE] at h
    obtain ⟨y,hy,h2⟩:=withT_out (withV_out hr (withV_out hr h))
    cases hk:y.k<;>rw [hk] at h2<;>first|exact h2.elim|skip
    rename_i e
    obtain ⟨te,hte,h3⟩:=withT_out h2
    cases hz:te.zero with
    | none=>rw [hz] at h3;exact h3.elim
    | some zs =>
     rw [hz] at h3
     obtain ⟨h4,h5⟩:=cond_out h3
     cases hv:a.eval l<;>rw [hv] at h5<;>first|exact h5.elim|skip
     cases hu:a.eval c<;>rw [hu] at h5<;>first|exact h5.elim|skip
     rename_i k ln k' cn
     obtain ⟨r,w',hrun,hkk⟩:=mks_run G (k:=k) (k':=k') hy hk hte hz (Nat.ble_eq.mp h4) h5
     refine okv (e := .v (.slice r.a r.l r.c)) ?_ hkk
     simp [execOp,hv,hu,hrun,Ent.val]
   case call c =>
    obtain ⟨callee,args,argTypes⟩:=c
    obtain ⟨args⟩:=args
    obtain ⟨tys⟩:=argTypes
    cases callee with
    | builtin b =>
     cases b<;>first|(cases hw;done)|exact h.elim|skip
     case append =>
      simp only [opE,callE] at h
      rcases args with _|⟨x,_|⟨x2,_|⟨x3,args⟩⟩⟩<;>rcases tys with _|⟨t,_|⟨t2,_|⟨t3,tys⟩⟩⟩<;>first|exact h.elim|skip
      obtain ⟨y,hy,h2⟩:=withT_out h
      cases hk:y.k<;>rw [hk] at h2<;>first|exact h2.elim|skip
      rename_i e
      obtain ⟨te,hte,h3⟩:=withT_out h2
      cases hz:te.zero with
      | none=>rw [hz] at h3;exact h3.elim
      | some zs =>
       rw [hz] at h3
       rcases cond_two h3 with ⟨h4,h5⟩|h3
       rotate_left
       ·obtain ⟨h4,h5⟩:=cond_out h3
        have h6:=withV_out hr (withV_out hr h5)
        cases hv:a.eval x<;>rw [hv] at h6<;>first|exact h6.elim|skip
        cases hu:a.eval x2<;>rw [hu] at h6<;>first|exact h6.elim|skip
        rename_i kk nn
        cases kk<;>first|exact h6.elim|skip
        simp only [Bool.and_eq_true] at h4
        obtain ⟨⟨hb1,hb2⟩,h7⟩:=h4
        cases ht2:C.T.get t2 with
        | none=>rw [ht2] at h7;cases h7
        | some y2 =>
         rw [ht2] at h7
         simp only at h7
         cases hg2:y2.tg with
         | c g =>
          rw [hg2] at h7
          simp only at h7
          cases g with
          | I k2 =>
           cases k2<;>first|(cases h7;done)|skip
           obtain ⟨r,w',hrun,hkk⟩:=appZ_run G (ty:=type) hy hk ht2 hg2 hte hz (Nat.ble_eq.mp hb1) (Nat.ble_eq.mp hb2) h6
           refine okv (e := .v (.slice r.a r.l r.c)) ?_ hkk
           simp only at hrun
           simp [execOp,resolve,invoke,builtin,hv,hu,hrun,Ent.val]
          | B=>cases h7
          | S=>cases h7
          | P=>cases h7
          | V=>cases h7
         | m ts=>rw [hg2] at h7;cases h7
         | a n=>rw [hg2] at h7;cases h7
         | q=>rw [hg2] at h7;cases h7
       have h6:=withV_out hr (withV_out hr h5)
       cases hv:a.eval x<;>rw [hv] at h6<;>first|exact h6.elim|skip
       cases hu:a.eval x2<;>rw [hu] at h6<;>first|exact h6.elim|skip
       simp only [Bool.and_eq_true] at h4
       obtain ⟨⟨hb1,hb2⟩,h7⟩:=h4
       cases ht2:C.T.get t2 with
       | none=>rw [ht2] at h7;cases h7
       | some y2 =>
        rw [ht2] at h7
        simp only at h7
        cases hk2:y2.k<;>rw [hk2] at h7<;>first|(cases h7;done)|skip
        obtain ⟨r,w',hrun,hkk⟩:=app_run G (ty:=type) hy hk ht2 ⟨_,hk2⟩ hte hz (Nat.ble_eq.mp hb1) (Nat.ble_eq.mp hb2) h6
        refine okv (e := .v (.slice r.a r.l r.c)) ?_ hkk
        simp only at hrun
        simp [execOp,resolve,invoke,builtin,hv,hu,hrun,Ent.val]
     case copy =>
      simp only [opE,callE] at h
      rcases args with _|⟨x,_|⟨x2,_|⟨x3,args⟩⟩⟩<;>rcases tys with _|⟨t,_|⟨t2,_|⟨t3,tys⟩⟩⟩<;>first|exact h.elim|skip
      obtain ⟨y,hy,h2⟩:=withT_out h
      cases hk:y.k<;>rw [hk] at h2<;>first|exact h2.elim|skip
      obtain ⟨te,hte,h3⟩:=withT_out h2
      have h6:=withV_out hr (withV_out hr h3)
      cases hv:a.eval x<;>rw [hv] at h6<;>first|exact h6.elim|skip
      cases hu:a.eval x2<;>rw [hu] at h6<;>first|exact h6.elim|skip
      obtain ⟨r,w',hrun,hkk⟩:=cpy_run G (ty:=type) (u:=t2) hy hk hte h6
      refine okv (e := .v (.int .i64 r)) ?_ hkk
      simp only at hrun
      simp [execOp,resolve,invoke,builtin,hv,hu,hrun,Ent.val]
    | value f =>
     cases f<;>first|exact h.elim|skip
     rename_i f
     simp only [opE,callE] at h
     cases hf:C.R.get f with
     | none=>rw [hf] at h;exact h.elim
     | some gs =>
      rw [hf] at h
      have h2:=withVs_out hr h
      have hfn:=G.R f gs hf
      have hrun:(execOp a.eval ⟨dst,.call ⟨.value (.func f),⟨args⟩,⟨tys⟩⟩,type,pos,after,guard⟩).run C.P w = .ok (.enter f (args.map a.eval).toArray) w:=by
       unfold hasFn at hfn
       cases hp:C.P.funcs[f]? with
       | none=>rw [hp] at hfn;cases hfn
       | some fn =>
        rw [hp] at hfn
        simp only [Bool.and_eq_true,bne_iff_ne,ne_eq] at hfn
        have e1:=hfn.1
        obtain ⟨bd,e2⟩:=Option.isSome_iff_exists.mp hfn.2
        rw [show (⟨args⟩:Array Operand)=args.toArray from rfl]
        simp [execOp,resolve,Act.eval,Deferred.ofValue,invoke,callFunc,hp,e1,e2]
      unfold Oper.wp
      rw [hrun,Oper.upon_enter]
      refine Calls.mono h2 ?_
      rintro e w' ⟨r,rfl,hk⟩
      simp only at hk ⊢
      have key:resMk gs r=(match gs,r with | [],_=>Ent.v (.tuple #[]) | [g],r=>g.ent r|g::h::gs,r => .tp (g::h::gs) r).val:=by
       rcases gs with _|⟨g,_|⟨g2,gs⟩⟩
       ·rfl
       ·simp only [ent_val];rfl
       ·rcases gs with _|⟨g3,gs⟩<;>rfl
      rw [key]
      exact hn _ _ hk
    | invoke r m=>exact h.elim
 | true =>
  obtain ⟨dst,op,type,pos,after,guard⟩:=o
  cases op<;>first|(cases hl;done)|skip
  rename_i t x
  dsimp only [opE] at h
  obtain ⟨p,hp,h2⟩:=withP_out hr h
  obtain ⟨y,hy,h3⟩:=withT_out h2
  obtain ⟨z,hz,hk,hsz⟩:=ldT_out h3
  have:=run_load_ok (G.T t y hy) hz hsz
  refine okv (e:=y.tg.ent z) ?_ hk
  simp [execOp,hp,Instr.loadAt,Instr.sureAddr,this,ent_val]
end
def Fx (fs:List (Addr×Value)) (w:World):Prop:=∀f∈fs,w.cell? f.1=some f.2
section
variable {C:Ctx} {P:Program} {ops:Array Oper} {Q:Exit→Act→World→Prop}
def YieldsD (P:Program) (ops:Array Oper) (D:World→Prop) (o:Oper) (v:Value) (a:Act):Prop :=
 (Region.wanted o (yielded ops a.tmps)=true∧∀w,D w→(execOp a.eval o).run P w = .ok (.value v) w) ∨
 (Region.wanted o (yielded ops a.tmps)=false∧v=undef)
theorem YieldsD.wpOp {D:World→Prop} {i:Nat} {o:Oper} {v:Value} {a:Act} (hi:ops[i]? = some o) (hy:YieldsD P ops D o v a)
  {K:Act→World→Prop} {w:World} (hD:D w) (h:K (a.put o.dst v) w):wpOp P ops Q i K a w:=by
 unfold Go.wpOp
 simp only [hi]
 rcases hy with ⟨hw,hv⟩|⟨hw,rfl⟩
 ·simp only [hw,if_true,Oper.wp,hv w hD,Oper.upon];exact .inl h
 ·simp only [hw,Bool.false_eq_true,if_false];exact h
theorem YieldsD.of_same {D:World→Prop} {o:Oper} {v:Value} {a a':Act} (hy:YieldsD P ops D o v a) (he:execOp a'.eval o=execOp a.eval o)
  (hw:Region.wanted o (yielded ops a'.tmps)=Region.wanted o (yielded ops a.tmps)):YieldsD P ops D o v a':=by
 unfold YieldsD at *
 rw [he,hw]
 exact hy
theorem wpOp_putD {D:World→Prop} {j:Nat} {oi oj:Oper} {v:Value} (hj:ops[j]? = some oj) (hap:oi.apart ops oj=true)
  (hsi:∀cs b,oi.op ≠ .select cs b) (hsj:∀cs b,oj.op ≠ .select cs b)
  (hQ:∀c a w,¬Q (.panic c) a w) {K:Act→World→Prop} {a:Act} {w:World}
  (hy:YieldsD P ops D oi v a) (h:wpOp P ops Q j K (a.put oi.dst v) w) :
  wpOp P ops Q j (fun a' w'=>YieldsD P ops D oi v a'∧K (a'.put oi.dst v) w') a w:=by
 obtain ⟨h1,h2,h3⟩:=Oper.apart_spec hap
 have keep:∀(a:Act),YieldsD P ops D oi v a→∀u,YieldsD P ops D oi v (a.put oj.dst u):=fun a hy u =>
  hy.of_same (execOp_put oi hsi a oj.dst u h3) (wanted_put oi a oj.dst u h3)
 have keepD:∀d,YieldsD P ops D oi v { a with defers:=d::a.defers } := fun d=>hy.of_same rfl rfl
 unfold wpOp at *
 simp only [hj] at *
 rw [wanted_put oj a oi.dst v h1] at h
 split
 ·rename_i hw
  simp only [hw,if_true] at h
  rcases h with h|⟨hasks,hlets⟩
  case inr=>exact .inr ⟨by unfold Oper.asks at *;rw [execOp_put oj hsj a oi.dst v h1] at hasks;exact hasks,hlets⟩
  refine .inl ?_
  unfold Oper.wp at *
  rw [execOp_put oj hsj a oi.dst v h1] at h
  generalize (execOp a.eval oj).run P w=r at *
  cases r with
  | ok n w' =>
   cases n<;>simp only [Oper.upon] at h ⊢
   case value u=>exact ⟨keep a hy u,by rw [←Act.put_comm a v u h2];exact h⟩
   case skip=>exact ⟨keep a hy _,by rw [←Act.put_comm a v undef h2];exact h⟩
   case defer d =>
    refine ⟨keep _ (keepD d) _,?_⟩
    rw [←Act.put_comm _ v undef h2, ←Act.put_defers]
    exact h
   case enter f args =>
    refine Calls.mono h fun e w'' he => ?_
    cases e with
    | returned u=>exact ⟨keep a hy u,by rw [←Act.put_comm a v u h2];exact he⟩
    | panicked c=>exact (hQ _ _ _ he).elim
    | outgrown=>exact he
   case row row args=>exact Rows.mono h fun u w'' he=>⟨keep a hy u,by rw [←Act.put_comm a v u h2];exact he⟩
  | halt x w' =>
   cases x<;>simp only [Oper.upon] at h ⊢
   case panic u=>exact (hQ _ _ _ h).elim
 ·rename_i hw
  simp only [hw] at h
  exact ⟨keep a hy _,by rw [←Act.put_comm a v undef h2];exact h⟩
def FxF (fs:List Fc) (w:World):Prop:=∀f∈fs,w.cell? f.2.1=some f.2.2
theorem mem_keep {j:Nat} {f:Fc} : ∀ {fs:List Fc},f∈keep j fs↔f∈fs∧f.1.any (Nat.beq j)=false
 | []=>by simp [keep]
 | g::r=>by
  unfold keep
  cases h:g.1.any (Nat.beq j) with
  | true =>
   simp only [cond_true]
   rw [mem_keep (fs:=r)]
   constructor
   ·rintro ⟨h1,h2⟩;exact ⟨List.mem_cons_of_mem _ h1,h2⟩
   ·rintro ⟨h1,h2⟩
    rcases List.mem_cons.1 h1 with rfl|h1
    ·rw [h] at h2;cases h2
    ·exact ⟨h1,h2⟩
  | false =>
   simp only [cond_false]
   constructor
   ·intro h1
    rcases List.mem_cons.1 h1 with rfl|h1
    ·exact ⟨List.mem_cons_self,h⟩
    ·have:=(mem_keep (fs:=r)).1 h1
     exact ⟨List.mem_cons_of_mem _ this.1,this.2⟩
   ·rintro ⟨h1,h2⟩
    rcases List.mem_cons.1 h1 with rfl|h1
    ·exact List.mem_cons_self
    ·exact List.mem_cons_of_mem _ ((mem_keep (fs:=r)).2 ⟨h1,h2⟩)
theorem keep_sub {j:Nat} {fs:List Fc} : keep j fs ⊆ fs:=fun _ h=>(mem_keep.1 h).1
theorem keep_mono {j:Nat} {fs gs:List Fc} (h:fs ⊆ gs):keep j fs ⊆ keep j gs:=fun _ hf=>mem_keep.2 ⟨h (mem_keep.1 hf).1,(mem_keep.1 hf).2⟩
theorem mem_tagF {d:List Nat} {f:Fc} : ∀ {l:List (Addr×Value)},f∈tagF d l→f.1=d∧f.2∈l
 | [],h=>by cases h
 | g::r,h=>by
  rcases List.mem_cons.1 h with rfl|h
  ·exact ⟨rfl,List.mem_cons_self⟩
  ·have:=mem_tagF (l:=r) h
   exact ⟨this.1,List.mem_cons_of_mem _ this.2⟩
theorem tagF_mem {d:List Nat} {x:Addr×Value} : ∀ {l:List (Addr×Value)},x∈l→(d,x)∈tagF d l
 | [],h=>by cases h
 | g::r,h=>by
  rcases List.mem_cons.1 h with rfl|h
  ·exact List.mem_cons_self
  ·exact List.mem_cons_of_mem _ (tagF_mem (l:=r) h)
theorem bare_mem {f:Fc} : ∀ {l:List Fc},f∈l→f.2∈bare l
 | [],h=>by cases h
 | g::r,h=>by
  rcases List.mem_cons.1 h with rfl|h
  ·exact List.mem_cons_self
  ·exact List.mem_cons_of_mem _ (bare_mem (l:=r) h)
theorem FxF.sub {fs gs:List Fc} {w:World} (h:FxF gs w) (hs:fs ⊆ gs):FxF fs w:=fun f hf=>h f (hs hf)
def wpAnyF (P:Program) (ops:Array Oper) (Q:Exit→Act→World→Prop):Nat→List Fc→Array Bool→Act→World→Prop
 | 0,_,listed,a,w=>Region.ready .any ops listed = []∧Q .normal a w
 | n+1,fs,listed,a,w=>(Region.ready .any ops listed = []→Q .normal a w)∧∀i∈Region.ready .any ops listed,wpOp P ops Q i (fun a' w' =>
   FxF (keep i fs) w'∧wpAnyF P ops Q n (keep i fs) (listed.setIfInBounds i true) a' w') a w
theorem wpAny_of_F:∀ {n:Nat} {fs:List Fc} {listed:Array Bool} {a:Act} {w:World},wpAnyF P ops Q n fs listed a w→wpAny P .any ops Q n listed a w
 | 0,_,_,_,_,h=>h
 | _+1,_,_,_,_,h=>⟨h.1,fun i hi=>wpOp_mono (fun _ _ h=>wpAny_of_F h.2) (h.2 i hi)⟩
theorem wpAnyF_mono:∀ {n:Nat} {fs fs':List Fc} {listed:Array Bool} {a:Act} {w:World},fs ⊆ fs' →
  wpAnyF P ops Q n fs' listed a w→wpAnyF P ops Q n fs listed a w
 | 0,_,_,_,_,_,_,h=>h
 | n+1,fs,fs',_,_,_,hf,h=>⟨h.1,fun i hi=>wpOp_mono (fun _ _ h=>⟨h.1.sub (keep_mono hf),wpAnyF_mono (keep_mono hf) h.2⟩) (h.2 i hi)⟩
def closedL (ops:Array Oper) (listed:Array Bool):Prop :=
 ∀j oj,ops[j]? = some oj→listed.getD j false=true→∀e∈oj.after,Region.binds .any e=true→listed.getD e.on false=true
theorem closedL.set {listed:Array Bool} {i:Nat} (h:closedL ops listed) (hi:i∈Region.ready .any ops listed):closedL ops (listed.setIfInBounds i true):=by
 obtain ⟨_,oi,hoi,hall⟩:=mem_ready.1 hi
 intro j oj hj hl e he hb
 by_cases hij:i=j
 ·subst hij
  have:oj=oi:=Option.some.inj (hj.symm.trans hoi)
  subst this
  exact getD_set_true (hall e he hb)
 ·rw [getD_set_ne false hij] at hl
  exact getD_set_true (h j oj hj hl e he hb)
theorem descs_out {i:Nat} {listed:Array Bool} (hcl:closedL ops listed) (hi:listed.getD i false=false) :
  ∀(l:List Oper) (k:Nat) (acc:List Nat),(∀j,l[j]? = ops[k+j]?)→(∀d∈acc,listed.getD d false=false∧d∉Region.ready .any ops listed) →
   ∀d∈descs i l k acc,listed.getD d false=false∧d∉Region.ready .any ops listed
 | [],_,_,_,hacc=>hacc
 | o::r,k,acc,hl,hacc=>by
  have h0:ops[k]? = some o:=by simpa using (hl 0).symm
  have hl':∀j,r[j]? = ops[k+1+j]? := fun j=>by have:=hl (j+1);simpa [Nat.add_assoc,Nat.add_comm 1 j] using this
  unfold descs
  refine descs_out hcl hi r (k+1) _ hl' ?_
  cases hb:(o.after.toList.any fun e=>Region.binds .any e&&(Nat.beq e.on i || acc.any (Nat.beq e.on))) with
  | false=>exact hacc
  | true =>
   obtain ⟨e,he,h1⟩:=List.any_eq_true.1 hb
   rw [Bool.and_eq_true,Bool.or_eq_true] at h1
   obtain ⟨hbe,h2⟩:=h1
   have hout:listed.getD e.on false=false:=by
    rcases h2 with h2|h2
    ·rw [Nat.eq_of_beq_eq_true h2];exact hi
    ·obtain ⟨d,hd,h3⟩:=List.any_eq_true.1 h2
     rw [Nat.eq_of_beq_eq_true h3]
     exact (hacc d hd).1
   intro d hd
   rcases List.mem_cons.1 hd with rfl|hd
   ·refine ⟨?_,fun hr => ?_⟩
    ·cases hx:listed.getD d false with
     | false=>rfl
     | true =>
      have:=hcl d o h0 hx e (by simpa using he) hbe
      rw [hout] at this
      cases this
    ·obtain ⟨_,o',ho',hall⟩:=mem_ready.1 hr
     have:o'=o:=Option.some.inj (ho'.symm.trans h0)
     subst this
     have:=hall e (by simpa using he) hbe
     rw [hout] at this
     cases this
   ·exact hacc d hd
theorem ready_descs {i j:Nat} {listed:Array Bool} (hcl:closedL ops listed) (hi:listed.getD i true=false) (hj:j∈Region.ready .any ops listed):(descs i ops.toList 0 []).any (Nat.beq j)=false:=by
 have hi':listed.getD i false=false:=by
  rcases Nat.lt_or_ge i listed.size with h'|h'
  ·simp [h'] at hi ⊢;exact hi
  ·simp [Array.getElem?_eq_none h'] at hi
 cases h:(descs i ops.toList 0 []).any (Nat.beq j) with
 | false=>rfl
 | true =>
  obtain ⟨d,hd,h2⟩:=List.any_eq_true.1 h
  have:=descs_out hcl hi' ops.toList 0 [] (by simp) (by simp) d hd
  rw [Nat.eq_of_beq_eq_true h2] at hj
  exact absurd hj this.2
theorem firstF {D:World→Prop} {i:Nat} {oi:Oper} {v:Value} (hi:ops[i]? = some oi) (hsel:∀(j:Nat) (o:Oper) cs b,ops[j]? = some o→o.op ≠ .select cs b)
  (hQ:∀c a w,¬Q (.panic c) a w) {F0:List Fc} (hF:∀w,FxF F0 w→D w) (hF0:∀f∈F0,f.1=descs i ops.toList 0 []) :
  ∀(n:Nat) (listed:Array Bool) (fs fs':List Fc) (a:Act) (w:World),closedL ops listed→fs ⊆ fs'→F0 ⊆ fs' →
   (∀j oj,ops[j]? = some oj→j≠i→listed.getD j true=false→(∀e∈oj.after,Region.binds .any e=true→e.on≠i)→oi.apart ops oj=true) →
   i∈Region.ready .any ops listed→YieldsD P ops D oi v a→D w→FxF fs w →
   wpAnyF P ops Q n fs' (listed.setIfInBounds i true) (a.put oi.dst v) w→wpAnyF P ops Q (n+1) fs listed a w:=by
 intro n
 induction n with
 | zero =>
  intro listed fs fs' a w _ _ _ _ hr hy hD hg H
  refine ⟨fun h=>(by rw [h] at hr;cases hr),fun j hj => ?_⟩
  by_cases hji:j=i
  ·subst hji
   exact hy.wpOp hi hD ⟨hg.sub keep_sub,H⟩
  ·have:=ready_mono hj hji
   rw [H.1] at this
   cases this
 | succ n ih =>
  intro listed fs fs' a w hcl hfs hF0s hfree hr hy hD hg H
  refine ⟨fun h=>(by rw [h] at hr;cases hr),fun j hj => ?_⟩
  by_cases hji:j=i
  ·subst hji
   exact hy.wpOp hi hD ⟨hg.sub keep_sub,wpAnyF_mono (fun _ h=>hfs (keep_sub h)) H⟩
  ·have h1:=H.2 j (ready_mono hj hji)
   obtain ⟨hjun,oj,hoj,hall⟩:=mem_ready.1 hj
   have hnot:∀e∈oj.after,Region.binds .any e=true→e.on≠i:=fun e he hb heq=>by
    have h1:=hall e he hb
    have h0:=(mem_ready.1 hr).1
    rw [heq] at h1
    rcases Nat.lt_or_ge i listed.size with h'|h'
    ·simp [h'] at h0 h1;rw [h0] at h1;cases h1
    ·simp [Array.getElem?_eq_none h'] at h1
   have h2:=wpOp_putD hoj (hfree j oj hoj hji hjun hnot) (fun cs b=>hsel i oi cs b hi) (fun cs b=>hsel j oj cs b hoj) hQ hy h1
   have hfree':∀k ok,ops[k]? = some ok→k≠i→(listed.setIfInBounds j true).getD k true=false →
     (∀e∈ok.after,Region.binds .any e=true→e.on≠i)→oi.apart ops ok=true:=fun k ok hk hki hun hno=>by
    refine hfree k ok hk hki ?_ hno
    by_cases hjk:j=k
    ·subst hjk;exact hjun
    ·rw [getD_set_ne true hjk] at hun;exact hun
   have hjd:=ready_descs hcl (mem_ready.1 hr).1 hj
   have hF0k:F0 ⊆ keep j fs':=fun f hf=>mem_keep.2 ⟨hF0s hf,by rw [hF0 f hf];exact hjd⟩
   refine wpOp_mono (fun a' w' h3 => ?_) h2
   obtain ⟨hy',hx,h4⟩:=h3
   refine ⟨hx.sub (keep_mono hfs),ih (listed.setIfInBounds j true) _ _ a' w' (hcl.set hj) (keep_mono hfs) hF0k hfree' (ready_mono hr (Ne.symm hji)) hy' (hF w' (hx.sub hF0k)) (hx.sub (keep_mono hfs)) ?_⟩
   rw [Array.setIfInBounds_comm _ _ hji]
   exact h4
end
structure Fr (ds:List Nat) (a a':Act):Prop where
 size:a'.tmps.size=a.tmps.size
 defers:a'.defers=a.defers
 same:∀s,s∉ds→a'.tmps.getD s undef=a.tmps.getD s undef
theorem Fr.refl (ds:List Nat) (a:Act):Fr ds a a:=⟨rfl,rfl,fun _ _=>rfl⟩
theorem Fr.trans {ds:List Nat} {a b c:Act} (h:Fr ds a b) (k:Fr ds b c):Fr ds a c :=
 ⟨k.size.trans h.size,k.defers.trans h.defers,fun s hs=>(k.same s hs).trans (h.same s hs)⟩
theorem Fr.sub {ds es:List Nat} {a b:Act} (h:Fr ds a b) (hs:ds ⊆ es):Fr es a b:=⟨h.size,h.defers,fun s hn=>h.same s fun hm=>hn (hs hm)⟩
theorem Fr.put {ds:List Nat} (a:Act) (d:Option Tmp) (v:Value) (hd:∀t,d=some t→t∈ds):Fr ds a (a.put d v):=by
 refine ⟨size_put a d v,by cases d<;>rfl,fun s hs => ?_⟩
 cases d with
 | none=>rfl
 | some d =>
  have hne:d≠s:=fun e=>hs (e▸hd d rfl)
  simp [Act.put,Array.getElem?_setIfInBounds_ne hne]
def dsts (ops:List Oper):List Nat:=ops.filterMap (·.dst)
theorem mem_dsts {ops:List Oper} {o:Oper} (h:o∈ops):∀t,o.dst=some t→t∈dsts ops:=fun _ ht=>List.mem_filterMap.2 ⟨o,h,ht⟩
section
variable {C:Ctx} {H:Hint}
theorem opV_wp (G:Good C) {env:Env} {a:Act} {w:World} {V:Option (List Tg)} {o:Oper} (hr:Rep env a) {κ:Ent→PT} {next:Act→World→Prop} {Q:Exit→Act→World→Prop}
  (hn:∀e w',κ e w'→next (a.put o.dst e.val) w') (h:opV C V o.op env κ w):o.wp C.P a w next Q:=by
 cases V with
 | none=>exact op_wp G hr hn h
 | some gs =>
  obtain ⟨dst,op,type,pos,after,guard⟩:=o
  cases op<;>first|exact h.elim|skip
  rename_i c
  obtain ⟨callee,args,argTypes⟩:=c
  obtain ⟨args⟩:=args
  cases callee with
  | value f =>
   dsimp only [opV] at h
   obtain ⟨fn,fs,cs,hv,hfn,h2⟩:=withVs_out hr (withV_out hr h)
   have hrun:(execOp a.eval ⟨dst,.call ⟨.value f,⟨args⟩,argTypes⟩,type,pos,after,guard⟩).run C.P w = .ok (.enter fn ((fs++(args.map a.eval).toArray)++cs)) w:=by
    unfold hasFn at hfn
    cases hp:C.P.funcs[fn]? with
    | none=>rw [hp] at hfn;cases hfn
    | some fnn =>
     rw [hp] at hfn
     simp only [Bool.and_eq_true,bne_iff_ne,ne_eq] at hfn
     have e1:=hfn.1
     obtain ⟨bd,e2⟩:=Option.isSome_iff_exists.mp hfn.2
     rw [show (⟨args⟩:Array Operand)=args.toArray from rfl]
     simp [execOp,resolve,hv,Deferred.ofValue,invoke,callFunc,hp,e1,e2]
   unfold Oper.wp
   rw [hrun,Oper.upon_enter]
   refine Calls.mono h2 ?_
   rintro e w' ⟨r,rfl,hk⟩
   simp only at hk ⊢
   have key:resMk gs r=(match gs,r with | [],_=>Ent.v (.tuple #[]) | [g],r=>g.ent r|g::h::gs,r => .tp (g::h::gs) r).val:=by
    rcases gs with _|⟨g,_|⟨g2,gs⟩⟩
    ·rfl
    ·simp only [ent_val];rfl
    ·rcases gs with _|⟨g3,gs⟩<;>rfl
   rw [key]
   exact hn _ _ hk
  | _=>exact h.elim
theorem opH_wp (G:Good C) {env:Env} {a:Act} {w:World} {o:Oper} (hr:Rep env a) {κ:Ent→PT} {next:Act→World→Prop} {Q:Exit→Act→World→Prop}
  (hn:∀e w',κ e w'→next (a.put o.dst e.val) w') (h:opH C H o env κ w):o.wp C.P a w next Q:=by
 unfold opH at h
 cases hd:o.dst with
 | none=>rw [hd] at h;exact op_wp G hr hn h
 | some d=>rw [hd] at h;exact opV_wp G hr hn h
theorem getD_bool {a:Act} {d:Nat} {b:Bool} (h:a.tmps.getD d undef = .bool b):a.tmps[d]? = some (.bool b):=by
 rcases Nat.lt_or_ge d a.tmps.size with hd|hd
 ·simp [hd] at h ⊢;exact h
 ·simp [Array.getElem?_eq_none hd,undef] at h
theorem yielded_of {full:List Oper} {a:Act} {j d:Nat} {oj:Oper} {b:Bool} (hj:full[j]? = some oj) (hd:oj.dst=some d) (h:a.tmps.getD d undef = .bool b):yielded full.toArray a.tmps j=some b:=by
 unfold yielded
 simp only [List.getElem?_toArray,hj,Option.bind_some,hd,getD_bool h]
theorem Rep.lit {env:Env} {a:Act} (hr:Rep env a) {d:Nat} {x:Bool} (h:a.tmps.getD d undef = .bool x):Rep ((d,.lb x)::env) a:=by
 intro s e hs
 simp only [lk] at hs
 cases hb:Nat.beq d s with
 | true =>
  have hds:d=s:=Nat.eq_of_beq_eq_true hb
  subst hds
  simp only [hb,cond_true,Option.some.injEq] at hs
  subst hs
  exact h
 | false=>simp only [hb,cond_false] at hs;exact hr s e hs
theorem gdE_out {full:List Oper} {o:Oper} {env:Env} {a:Act} {w:World} {yes no:Env→PT} (hr:Rep env a) (h:gdE full o env yes no w) :
  (Region.wanted o (yielded full.toArray a.tmps)=true∧∃env',Rep env' a∧yes env' w)∨(Region.wanted o (yielded full.toArray a.tmps)=false∧∃env',Rep env' a∧no env' w):=by
 unfold gdE at h
 unfold Region.wanted
 cases hg:o.guard with
 | none=>rw [hg] at h;exact .inl ⟨rfl,env,hr,h⟩
 | some jw =>
  obtain ⟨j,want⟩:=jw
  rw [hg] at h
  simp only at h ⊢
  cases hj:full[j]? with
  | none=>rw [hj] at h;exact h.elim
  | some oj =>
   rw [hj] at h
   simp only at h
   cases hd:oj.dst with
   | none=>rw [hd] at h;exact h.elim
   | some d =>
    rw [hd] at h
    simp only at h
    cases he:lk env d with
    | none=>rw [he] at h;exact h.elim
    | some e =>
     rw [he] at h
     have hv:=hr d e he
     cases e with
     | lb b =>
      have hy:=yielded_of hj hd hv
      rw [hy]
      cases b<;>cases want<;>first|exact .inl ⟨rfl,env,hr,h⟩|exact .inr ⟨rfl,env,hr,h⟩
     | v v =>
      cases v<;>first|exact h.elim|skip
      case tuple vs =>
       have hy:yielded full.toArray a.tmps j=none:=by
        unfold yielded
        simp only [List.getElem?_toArray,hj,Option.bind_some,hd]
        rcases Nat.lt_or_ge d a.tmps.size with hd'|hd'
        ·have:a.tmps[d]? = some (.tuple vs):=by simp [hd',Ent.val] at hv ⊢;exact hv
         rw [this]
        ·rw [Array.getElem?_eq_none hd']
       rw [hy]
       exact .inr ⟨by cases want<;>rfl,env,hr,h⟩
      rename_i x
      have hy:=yielded_of hj hd hv
      rw [hy]
      have hl:=hr.lit hv
      cases x
      ·have h2:=h.2 rfl
       cases want
       ·exact .inl ⟨rfl,_,hl,h2⟩
       ·exact .inr ⟨rfl,_,hl,h2⟩
      ·have h2:=h.1 rfl
       cases want
       ·exact .inr ⟨rfl,_,hl,h2⟩
       ·exact .inl ⟨rfl,_,hl,h2⟩
     | _=>exact h.elim
theorem seqE_wp (G:Good C) {full:List Oper} {Q:Exit→Act→World→Prop} {κ:Env→PT} {ds:List Nat} {n:Nat} : ∀ {l:List Oper} {env:Env} {a:Act} {w:World},Rep env a→a.tmps.size=n →
  (∀o∈l,∀t,o.dst=some t→t∈ds∧t<n)→(∀env' a' w',Rep env' a'→Fr ds a a'→κ env' w'→Q .normal a' w')→seqE C H full l env κ w→wpList C.P full.toArray Q l a w
 | [],env,a,w,hr,_,_,hQ,h=>hQ env a w hr (Fr.refl _ _) h
 | o::r,env,a,w,hr,hn,hd,hQ,h=>by
  have hdo:=hd o List.mem_cons_self
  have hfr:∀v,Fr ds a (a.put o.dst v):=fun v=>Fr.put a o.dst v fun t ht=>(hdo t ht).1
  have go:∀(env':Env) (e:Ent) (w':World),Rep env' a→seqE C H full r (put o.dst e env') κ w'→wpList C.P full.toArray Q r (a.put o.dst e.val) w':=fun env' e w' hr' h' =>
   seqE_wp G (hr'.put o.dst e fun t ht=>by rw [hn];exact (hdo t ht).2) ((size_put _ _ _).trans hn) (fun o' ho'=>hd o' (List.mem_cons_of_mem _ ho'))
    (fun env2 a2 w2 h1 h2 h3=>hQ env2 a2 w2 h1 ((hfr e.val).trans h2) h3) h'
  unfold wpList
  rcases gdE_out hr h with ⟨hw,env',hr',h2⟩|⟨hw,env',hr',h2⟩
  ·rw [if_pos hw]
   exact .inl (opH_wp G hr' (fun e w' hk=>go env' e w' hr' hk) h2)
  ·rw [if_neg (by rw [hw];simp)]
   exact go env' (.v undef) w hr' h2
theorem drwE_wp (G:Good C) {full:List Oper} {Q:Exit→Act→World→Prop} {κ:Env→PT} {ds:List Nat} {N:Nat} (hQp:∀c a w,¬Q (.panic c) a w) (hsel:∀(j:Nat) (o:Oper) cs b,full[j]? = some o→o.op ≠ .select cs b) :
  ∀ {n:Nat} {l:List Nat} {listed:Array Bool} {fs:List Fc} {env:Env} {a:Act} {w:World},plan C full.toArray n listed=some l→closedL full.toArray listed→FxF fs w →
   Rep env a→a.tmps.size=N→(∀o∈full,∀t,o.dst=some t→t∈ds∧t<N)→(∀env' a' w',Rep env' a'→Fr ds a a'→κ env' w'→Q .normal a' w') →
   drwE C H full l fs env κ w→wpAnyF C.P full.toArray Q n fs listed a w:=by
 intro n
 induction n with
 | zero =>
  intro l listed fs env a w hp _ _ hr _ _ hQ h
  unfold plan at hp
  cases hrd:Region.ready .any full.toArray listed with
  | nil =>
   rw [hrd] at hp
   simp only [Option.some.injEq] at hp
   subst hp
   exact ⟨hrd,hQ env a w hr (Fr.refl _ _) h⟩
  | cons x xs=>rw [hrd] at hp;cases hp
 | succ n ih =>
  intro l listed fs env a w hp hcl hg hr hN hd hQ h
  unfold plan at hp
  have step:∀(i:Nat) (r:List Nat) (o:Oper),l=i::r→full[i]? = some o→i∈Region.ready .any full.toArray listed→plan C full.toArray n (listed.setIfInBounds i true)=some r →
    ∀(env':Env) (e:Ent) (w':World) (fs':List Fc),FxF fs' w'→Rep env' a→drwE C H full r fs' (put o.dst e env') κ w' →
     wpAnyF C.P full.toArray Q n fs' (listed.setIfInBounds i true) (a.put o.dst e.val) w':=fun i r o hl hi hir hpl env' e w' fs' hx hr' h'=>by
   have ho:o∈full:=List.mem_of_getElem? hi
   have hfr:Fr ds a (a.put o.dst e.val):=Fr.put a o.dst _ fun t ht=>(hd o ho t ht).1
   exact ih hpl (hcl.set hir) hx (hr'.put o.dst e fun t ht=>by rw [hN];exact (hd o ho t ht).2) ((size_put _ _ _).trans hN) hd
    (fun env2 a2 w2 h1 h2 h3=>hQ env2 a2 w2 h1 (hfr.trans h2) h3) h'
  cases hfind:(Region.ready .any full.toArray listed).find? (isW C full.toArray) with
  | some i =>
   rw [hfind] at hp
   simp only at hp
   cases hfree:Region.free .any full.toArray listed i with
   | false=>rw [hfree] at hp;cases hp
   | true =>
    rw [hfree] at hp
    simp only [cond_true] at hp
    cases hpl:plan C full.toArray n (listed.setIfInBounds i true) with
    | none=>rw [hpl] at hp;cases hp
    | some r =>
     rw [hpl] at hp
     simp only [Option.some.injEq] at hp
     have hl:l=i::r:=hp.symm
     have hir:=List.mem_of_find?_eq_some hfind
     have hwi:=List.find?_some hfind
     obtain ⟨_,o,ho',_⟩:=mem_ready.1 hir
     have ho:full[i]? = some o:=by simpa using ho'
     replace hwi:wl C o.op=true:=by simpa [isW,ho] using hwi
     subst hl
     unfold drwE at h
     rw [ho] at h
     have hfr:=Region.free_spec ho' hfree
     have fin:∀(env':Env) (e:Ent) (D:World→Prop) (F0:List Fc),Rep env' a→D w→(∀w,FxF F0 w→D w)→(∀f∈F0,f.1=descs i full 0 [])→FxF (F0++fs) w →
       YieldsD C.P full.toArray D o e.val a→drwE C H full r (F0++fs) (put o.dst e env') κ w→wpAnyF C.P full.toArray Q (n+1) fs listed a w:=fun env' e D F0 hr' hD h1 h2 hx hy h' =>
      firstF (D:=D) ho' (fun j o' cs b hj=>hsel j o' cs b (by simpa using hj)) hQp h1 (by simpa using h2) n listed fs (F0++fs) a w hcl (List.subset_append_right _ _) (List.subset_append_left _ _) hfr hir hy hD hg
       (step i r o rfl ho hir hpl env' e w (F0++fs) hx hr' h')
     rcases gdE_out hr h with ⟨hw,env',hr',h2⟩|⟨hw,env',hr',h2⟩
     ·cases hlo:(match o.op with | .load .. => true|_=>false) with
      | true =>
       obtain ⟨t,x,hox⟩:∃t x,o.op = .load t x:=by
        cases hop:o.op<;>rw [hop] at hlo<;>first|(cases hlo;done)|exact ⟨_,_,rfl⟩
       rw [hox] at h2
       obtain ⟨p,hp1,h3⟩:=withP_out hr' h2
       obtain ⟨y,hy1,h4⟩:=withT_out h3
       obtain ⟨z,hz,hk,hsz⟩:=ldT_out h4
       have hrun:∀w',Fx (cellsOf y.tg p z) w'→(execOp a.eval o).run C.P w' = .ok (.value (y.tg.ent z).val) w':=fun w' hx=>by
        have:=run_load_ok (G.T t y hy1) hx hsz
        simp [execOp,hox,hp1,Instr.loadAt,Instr.sureAddr,this,ent_val]
       refine fin env' (y.tg.ent z) (Fx (cellsOf y.tg p z)) (tagF (descs i full 0 []) (cellsOf y.tg p z)) hr' hz (fun w' hx f hf=>hx _ (tagF_mem hf)) (fun f hf=>(mem_tagF hf).1) ?_ (.inl ⟨hw,hrun⟩) hk
       intro f hf
       rcases List.mem_append.1 hf with hf|hf
       ·exact hz _ (mem_tagF hf).2
       ·exact hg f hf
      | false =>
       have hnl:∀t x,o.op ≠ .load t x:=fun t x e=>by rw [e] at hlo;cases hlo
       have h3:(opE C o.op env' fun e=>drwE C H full r fs (put o.dst e env') κ) w:=by
        obtain ⟨dst,op,type,pos,after,guard⟩:=o
        cases op<;>first|(exact absurd rfl (hnl _ _))|(simp only [hwi,cond_true] at h2;exact h2)
       obtain ⟨e,hk,hrun⟩:=wl_run G hr' hwi hnl h3
       exact fin env' e (fun _=>True) [] hr' trivial (fun _ _=>trivial) (by simp) hg (.inl ⟨hw,fun w' _=>hrun w'⟩) hk
     ·exact fin env' (.v undef) (fun _=>True) [] hr' trivial (fun _ _=>trivial) (by simp) hg (.inr ⟨hw,rfl⟩) h2
  | none =>
   rw [hfind] at hp
   simp only at hp
   cases hrd:Region.ready .any full.toArray listed with
   | nil=>rw [hrd] at hp;cases hp
   | cons i rest =>
    rw [hrd] at hp
    cases rest with
    | cons=>cases hp
    | nil =>
     simp only at hp
     cases hpl:plan C full.toArray n (listed.setIfInBounds i true) with
     | none=>rw [hpl] at hp;cases hp
     | some r =>
      rw [hpl] at hp
      simp only [Option.some.injEq] at hp
      have hl:l=i::r:=hp.symm
      have hir:i∈Region.ready .any full.toArray listed:=by rw [hrd];exact List.mem_singleton.2 rfl
      obtain ⟨_,o,ho',_⟩:=mem_ready.1 hir
      have ho:full[i]? = some o:=by simpa using ho'
      have hnw:wl C o.op=false:=by
       have:=List.find?_eq_none.1 hfind i hir
       simpa [isW,ho] using this
      subst hl
      unfold drwE at h
      rw [ho] at h
      refine ⟨fun h0=>(by rw [hrd] at h0;cases h0),fun j hj => ?_⟩
      have hji:j=i:=by rw [hrd] at hj;exact List.mem_singleton.1 hj
      subst hji
      unfold wpOp
      simp only [ho']
      rcases gdE_out hr h with ⟨hw,env',hr',h2⟩|⟨hw,env',hr',h2⟩
      ·rw [if_pos hw]
       refine .inl ?_
       have h3:(opH C H o env' fun e=>kpE (bare (keep j fs)) (drwE C H full r (keep j fs) (put o.dst e env') κ)) w:=by
        obtain ⟨dst,op,type,pos,after,guard⟩:=o
        cases op<;>first|(cases hnw;done)|(simp only [hnw,cond_false] at h2;exact h2)
       refine opH_wp G hr' (fun e w' hk => ?_) h3
       have hk':FxF (keep j fs) w'∧drwE C H full r (keep j fs) (put o.dst e env') κ w':=by
        generalize keep j fs=ks at hk ⊢
        cases ks with
        | nil=>exact ⟨fun f hf=>by simp at hf,hk⟩
        | cons f ks=>exact ⟨fun g hg=>hk.1 _ (bare_mem hg),hk.2⟩
       exact ⟨hk'.1,step j r o rfl ho hir hpl env' e w' _ hk'.1 hr' hk'.2⟩
      ·rw [if_neg (by rw [hw];simp)]
       exact ⟨hg.sub keep_sub,wpAnyF_mono keep_sub (step j r o rfl ho hir hpl env' (.v undef) w fs hg hr' h2)⟩
end
section
variable {C:Ctx} {H:Hint}
theorem unC_out {t:CT} {v:Value} {κ:t.ty→PT} {w:World} (h:unC t v κ w):∃x,κ x w∧v=t.mk x:=by
 cases t with
 | I k =>
  cases v<;>first|exact h.elim|skip
  obtain ⟨h1,h2⟩:=cond_out h
  have:=same_eq h1
  subst this
  exact ⟨_,h2,rfl⟩
 | B=>cases v<;>first|exact h.elim|exact ⟨_,h,rfl⟩
 | S=>cases v<;>first|exact h.elim|exact ⟨_,h,rfl⟩
 | P=>cases v<;>first|exact h.elim|exact ⟨_,h,rfl⟩
 | V=>exact ⟨_,h,rfl⟩
theorem unL_out {ts:List CT} : ∀ {l:List Value} {κ:tyL ts→PT} {w:World},unL ts l κ w→∃x,κ x w∧l=mkL ts x:=by
 induction ts with
 | nil =>
  intro l κ w h
  cases l with
  | nil=>exact ⟨(),h,rfl⟩
  | cons=>exact h.elim
 | cons t r ih =>
  intro l κ w h
  cases r with
  | nil =>
   rcases l with _|⟨v,_|⟨v2,l⟩⟩<;>first|exact h.elim|skip
   obtain ⟨x,h1,rfl⟩:=unC_out h
   exact ⟨x,h1,rfl⟩
  | cons u r =>
   cases l with
   | nil=>exact h.elim
   | cons v l =>
    obtain ⟨x,h1,rfl⟩:=unC_out h
    obtain ⟨xs,h2,rfl⟩:=ih h1
    exact ⟨(x,xs),h2,rfl⟩
theorem unT_out {g:Tg} {v:Value} {κ:g.ty→PT} {w:World} (h:unT g v κ w):∃x,κ x w∧v=g.mk x:=by
 cases g with
 | c t=>exact unC_out h
 | m ts =>
  unfold unT at h
  cases v<;>first|exact h.elim|skip
  rename_i cs
  obtain ⟨x,h1,h2⟩:=unL_out h
  refine ⟨x,h1,?_⟩
  show Value.agg cs=Value.agg ⟨mkL ts x⟩
  rw [←h2]
 | a n =>
  unfold unT at h
  cases v<;>first|exact h.elim|exact ⟨_,h,rfl⟩
 | q =>
  unfold unT at h
  cases v<;>first|exact h.elim|skip
  obtain ⟨p,rfl,h2⟩:=h
  exact ⟨p,h2,rfl⟩
theorem unR_out {gs:List Tg} : ∀ {l:List Value} {κ:resT gs→PT} {w:World},unR gs l κ w→∃r,κ r w∧l=resL gs r:=by
 induction gs with
 | nil =>
  intro l κ w h
  cases l with
  | nil=>exact ⟨(),h,rfl⟩
  | cons=>exact h.elim
 | cons t r ih =>
  intro l κ w h
  cases r with
  | nil =>
   rcases l with _|⟨v,_|⟨v2,l⟩⟩<;>first|exact h.elim|skip
   obtain ⟨x,h1,rfl⟩:=unT_out h
   exact ⟨x,h1,rfl⟩
  | cons u r =>
   cases l with
   | nil=>exact h.elim
   | cons v l =>
    obtain ⟨x,h1,rfl⟩:=unT_out h
    obtain ⟨xs,h2,rfl⟩:=ih h1
    exact ⟨(x,xs),h2,rfl⟩
theorem absGet_out {L:List (Nat×Tg)} : ∀ {env:Env} {κ:absT L→PT} {w:World} {a:Act},Rep env a→absGet L env κ w→∃s,κ s w∧Rep (absMk L s) a:=by
 have one:∀ {x:Nat×Tg} {env:Env} {κ:x.2.ty→PT} {w:World} {a:Act},Rep env a→unE x.2 (lk env x.1) κ w→∃v,κ v w∧a.tmps.getD x.1 undef=(x.2.ent v).val:=by
  intro x env κ w a hr h
  unfold unE at h
  cases he:lk env x.1 with
  | none=>rw [he] at h;exact h.elim
  | some e =>
   rw [he] at h
   have hv:=hr _ _ he
   rw [hv]
   obtain ⟨s,g⟩:=x
   have gen:∀g,(κ:Tg.ty g→PT)→unT g e.val κ w→∃v,κ v w∧e.val=(g.ent v).val:=fun g κ h=>by
    obtain ⟨x,h1,h2⟩:=unT_out h
    exact ⟨x,h1,by rw [h2,ent_val]⟩
   cases g with
   | c t=>exact gen _ κ h
   | m ts=>exact gen _ κ h
   | a n=>exact gen _ κ h
   | q =>
    cases e with
    | pt p=>exact ⟨p,h,rfl⟩
    | v v =>
     cases v<;>first|exact h.elim|skip
     obtain ⟨p,rfl,h2⟩:=h
     exact ⟨p,h2,rfl⟩
    | _=>exact h.elim
 have cons:∀ {s:Nat} {e:Ent} {env:Env} {a:Act},a.tmps.getD s undef=e.val→Rep env a→Rep ((s,e)::env) a:=by
  intro s e env a h hr s' e' hs
  simp only [lk] at hs
  cases hb:Nat.beq s s' with
  | true =>
   have:=Nat.eq_of_beq_eq_true hb
   subst this
   simp only [hb,cond_true,Option.some.injEq] at hs
   subst hs
   exact h
  | false=>simp only [hb,cond_false] at hs;exact hr s' e' hs
 have nil:∀ {a:Act},Rep [] a:=by intro a s e h;cases h
 induction L with
 | nil=>intro env κ w a _ h;exact ⟨(),h,nil⟩
 | cons x r ih =>
  intro env κ w a hr h
  cases r with
  | nil =>
   obtain ⟨v,h1,h2⟩:=one hr h
   exact ⟨v,h1,cons h2 nil⟩
  | cons y r =>
   obtain ⟨v,h1,h2⟩:=one hr h
   obtain ⟨vs,h3,h4⟩:=ih hr h1
   exact ⟨(v,vs),h3,cons h2 h4⟩
theorem lk_append {e1 e2:Env} {t:Nat} : lk (e1++e2) t=(lk e1 t).or (lk e2 t):=by
 induction e1 with
 | nil=>simp [lk]
 | cons x e1 ih =>
  obtain ⟨s,e⟩:=x
  simp only [List.cons_append,lk,ih]
  cases Nat.beq s t<;>simp
theorem lk_pickE {U:List Nat} {env:Env} {t:Nat} {e:Ent} (h:lk (pickE U env) t=some e):t∈U∧lk env t=some e:=by
 induction U with
 | nil=>cases h
 | cons s r ih =>
  unfold pickE at h
  cases hs:lk env s with
  | none=>rw [hs] at h;have:=ih h;exact ⟨List.mem_cons_of_mem _ this.1,this.2⟩
  | some e' =>
   rw [hs] at h
   simp only [lk] at h
   cases hb:Nat.beq s t with
   | true =>
    have:=Nat.eq_of_beq_eq_true hb
    subst this
    simp only [hb,cond_true,Option.some.injEq] at h
    subst h
    exact ⟨List.mem_cons_self,hs⟩
   | false =>
    simp only [hb,cond_false] at h
    have:=ih h
    exact ⟨List.mem_cons_of_mem _ this.1,this.2⟩
theorem Rep.join {env:Env} {a a':Act} {U A:List Nat} {env':Env} (hr:Rep env a) (hf:Fr A a a') (hU:apartB U A=true) (hr':Rep env' a'):Rep (env'++pickE U env) a':=by
 intro s e hs
 rw [lk_append] at hs
 cases h1:lk env' s with
 | some e' =>
  rw [h1] at hs
  simp only [Option.some_or,Option.some.injEq] at hs
  subst hs
  exact hr' s _ h1
 | none =>
  rw [h1] at hs
  simp only [Option.none_or] at hs
  obtain ⟨hm,he⟩:=lk_pickE hs
  have hns:s∉A:=fun hA=>by
   have h2:=List.all_eq_true.1 hU s hm
   simp only [Bool.not_eq_true',List.any_eq_false] at h2
   exact h2 s hA (Nat.beq_refl s)
  rw [hf.same s hns]
  exact hr s e he
theorem least {p:Nat→Prop} : ∀n,p n→∃m,p m∧∀k,p k→m≤k:=by
 intro n
 induction n using Nat.strongRecOn with
 | _ n ih =>
  intro hn
  by_cases h:∃k,k<n∧p k
  ·obtain ⟨k,hk,hp⟩:=h
   exact ih k hk hp
  ·exact ⟨n,hn,fun k hk=>Nat.not_lt.1 fun hlt=>h ⟨k,hlt,hk⟩⟩
theorem wp_loop_by {P:Program} {Q:Exit→Act→World→Prop} {c:Code} (T:Nat→Act→World→Prop) {m:Nat} {a:Act} {w:World} (h0:T m a w)
  (round:∀m a w,T m a w→c.wp P (Exit.then (fun a' w'=>∃m',m'<m∧T m' a' w') Q) a w):(Code.loop c).wp P Q a w:=by
 classical
 have ex:∀a w,(∃m,T m a w)→∃m,T m a w∧∀k,T k a w→m≤k:=fun a w ⟨m,h⟩=>least m h
 let μ:Act→World→Nat:=fun a w=>if h:∃m,T m a w then Classical.choose (ex a w h) else 0
 have hμ:∀a w,(∃m,T m a w)→T (μ a w) a w∧∀k,T k a w→μ a w≤k:=fun a w h=>by
  have:μ a w=Classical.choose (ex a w h):=dif_pos h
  rw [this]
  exact Classical.choose_spec (ex a w h)
 refine wp_loop (fun a w=>∃m,T m a w) μ ⟨m,h0⟩ fun a w h => ?_
 refine wp_mono (round _ a w (hμ a w h).1) fun e a' w' hq => ?_
 cases e with
 | normal =>
  obtain ⟨m',hlt,hT⟩:=hq
  exact ⟨⟨m',hT⟩,Nat.lt_of_le_of_lt ((hμ a' w' ⟨m',hT⟩).2 m' hT) hlt⟩
 | _=>exact hq
theorem codeE_wp (G:Good C) {n:Nat} : ∀ {c:Code} {p:Nat} {K:Exit→Env→PT} {env:Env} {a:Act} {w:World},(∀t∈asg c,t<n)→noSel c=true→a.tmps.size=n→Rep env a→codeE C H c p K env w →
  c.wp C.P (fun e a' w'=>∃env',Rep env' a'∧Fr (asg c) a a'∧K e env' w') a w:=by
 intro c
 induction c with
 | skip=>exact fun {_ _ env a w} _ _ _ hr h=>wp_skip ⟨env,hr,Fr.refl _ _,h⟩
 | label l=>exact fun {_ _ env a w} _ _ _ hr h=>wp_label ⟨env,hr,Fr.refl _ _,h⟩
 | exit id=>exact fun {_ _ env a w} _ _ _ hr h=>wp_exit ⟨env,hr,Fr.refl _ _,h⟩
 | ret=>exact fun {_ _ env a w} _ _ _ hr h=>wp_ret ⟨env,hr,Fr.refl _ _,h⟩
 | goto l=>exact fun _ _ _ _ h=>h.elim
 | refuse s=>exact fun _ _ _ _ h=>h.elim
 | scope c _=>exact fun _ _ _ _ h=>h.elim
 | rangeFunc f ps x y _ _=>exact fun _ _ _ _ h=>h.elim
 | region id ops d =>
  intro p K env a w hd hsel hn hr h
  obtain ⟨ops⟩:=ops
  have hdo:∀o∈ops,∀t,o.dst=some t→t∈asg (.region id ⟨ops⟩ d)∧t<n:=fun o ho t ht=>by
   have:t∈asg (.region id ⟨ops⟩ d):=mem_dsts ho t ht
   exact ⟨this,hd t this⟩
  cases d with
  | false=>exact wp_region_lit (seqE_wp G hr hn hdo (fun env' a' w' h1 h2 h3=>⟨env',h1,h2,h3⟩) h)
  | true =>
   unfold codeE at h
   simp only at h
   cases hp:plan C ⟨ops⟩ ops.length (Array.replicate ops.length false) with
   | none=>rw [hp] at h;exact h.elim
   | some l =>
    rw [hp] at h
    have hs:∀(j:Nat) (o:Oper) cs b,ops[j]? = some o→o.op ≠ .select cs b:=fun j o cs b hj e=>by
     have:=List.all_eq_true.1 hsel o (List.mem_of_getElem? hj)
     rw [e] at this
     cases this
    have hcl:closedL (⟨ops⟩:Array Oper) (Array.replicate ops.length false):=fun j oj _ hl=>by
     rcases Nat.lt_or_ge j ops.length with h|h
     ·simp [h] at hl
     ·simp [Nat.not_lt.mpr h] at hl
    let Q:Exit→Act→World→Prop:=fun e a' w'=>e = .normal∧∃env',Rep env' a'∧Fr (asg (.region id ⟨ops⟩ true)) a a'∧K .normal env' w'
    have key:=drwE_wp G (Q:=Q) (ds:=asg (.region id ⟨ops⟩ true)) (N:=n) (full:=ops) (a:=a) (w:=w.drew) (fun c a w hq=>by cases hq.1) hs hp hcl (fun f hf=>by simp at hf) hr hn hdo
     (fun env' a' w' h1 h2 h3=>⟨rfl,env',h1,h2,h3⟩) h
    have h3:=wp_region_any (id:=id) (a:=a) (w:=w) (ops:=(⟨ops⟩:Array Oper)) (Q:=Q) G.mixed (wpAny_of_F key)
    refine wp_mono h3 fun e a' w' hq => ?_
    obtain ⟨rfl,h4⟩:=hq
    exact h4
 | seq x y ihx ihy =>
  intro p K env a w hd hsel hn hr h
  have hsel':noSel x=true∧noSel y=true:=by simpa [noSel] using hsel
  have hdx:∀t∈asg x,t<n:=fun t ht=>hd t (List.mem_append_left _ ht)
  have hdy:∀t∈asg y,t<n:=fun t ht=>hd t (List.mem_append_right _ ht)
  have sx:asg x ⊆ asg (.seq x y):=List.subset_append_left _ _
  have sy:asg y ⊆ asg (.seq x y):=List.subset_append_right _ _
  unfold codeE at h
  cases hJ:H.J.get p with
  | none =>
   rw [hJ] at h
   refine wp_seq (wp_mono (ihx hdx hsel'.1 hn hr h) fun e a1 w1 hq => ?_)
   obtain ⟨env1,hr1,hf1,hk⟩:=hq
   cases e with
   | normal =>
    refine wp_mono (ihy hdy hsel'.2 (hf1.size.trans hn) hr1 hk) fun e a2 w2 hq2 => ?_
    obtain ⟨env2,hr2,hf2,hk2⟩:=hq2
    exact ⟨env2,hr2,(hf1.sub sx).trans (hf2.sub sy),hk2⟩
   | _=>exact ⟨env1,hr1,hf1.sub sx,hk⟩
  | some LU =>
   obtain ⟨L,U⟩:=LU
   rw [hJ] at h
   obtain ⟨hU,R,hRY,hX⟩:=cond_out h
   refine wp_seq (wp_mono (ihx hdx hsel'.1 hn hr hX) fun e a1 w1 hq => ?_)
   obtain ⟨env1,hr1,hf1,hk⟩:=hq
   cases e with
   | normal =>
    obtain ⟨s,hR,hrs⟩:=absGet_out hr1 hk
    refine wp_mono (ihy hdy hsel'.2 (hf1.size.trans hn) (hr.join hf1 hU hrs) (hRY s w1 hR)) fun e a2 w2 hq2 => ?_
    obtain ⟨env2,hr2,hf2,hk2⟩:=hq2
    exact ⟨env2,hr2,(hf1.sub sx).trans (hf2.sub sy),hk2⟩
   | _=>exact ⟨env1,hr1,hf1.sub sx,hk⟩
 | cond c x y ihx ihy =>
  intro p K env a w hd hsel hn hr h
  have hsel':noSel x=true∧noSel y=true:=by simpa [noSel] using hsel
  have hdx:∀t∈asg x,t<n:=fun t ht=>hd t (List.mem_append_left _ ht)
  have hdy:∀t∈asg y,t<n:=fun t ht=>hd t (List.mem_append_right _ ht)
  have sx:asg x ⊆ asg (.cond c x y):=List.subset_append_left _ _
  have sy:asg y ⊆ asg (.cond c x y):=List.subset_append_right _ _
  have wx:codeE C H x (2*p) K env w→x.wp C.P (fun e a' w'=>∃env',Rep env' a'∧Fr (asg (.cond c x y)) a a'∧K e env' w') a w:=fun h =>
   wp_mono (ihx hdx hsel'.1 hn hr h) fun e a1 w1 ⟨env1,hr1,hf1,hk⟩=>⟨env1,hr1,hf1.sub sx,hk⟩
  have wy:codeE C H y (2*p) K env w∨codeE C H y (2*p+1) K env w→y.wp C.P (fun e a' w'=>∃env',Rep env' a'∧Fr (asg (.cond c x y)) a a'∧K e env' w') a w:=fun h=>by
   rcases h with h|h<;>exact wp_mono (ihy hdy hsel'.2 hn hr h) fun e a1 w1 ⟨env1,hr1,hf1,hk⟩=>⟨env1,hr1,hf1.sub sy,hk⟩
  unfold codeE at h
  cases he:evE env c with
  | none=>rw [he] at h;exact h.elim
  | some e =>
   rw [he] at h
   have hv:=evE_eval hr he
   cases e with
   | lb b =>
    cases b
    ·exact wp_cond_false hv (wy (.inr h))
    ·exact wp_cond_true hv (wx h)
   | v v =>
    cases v<;>first|exact h.elim|skip
    rename_i b
    exact wp_cond_split hv (fun hb=>wx (h.1 hb)) (fun hb=>wy (.inr (h.2 hb)))
   | _=>exact h.elim
 | block id c ih =>
  intro p K env a w hd hsel hn hr h
  refine wp_block (wp_mono (ih hd hsel hn hr h) fun e a1 w1 hq => ?_)
  obtain ⟨env1,hr1,hf1,hk⟩:=hq
  cases e with
  | exit id' =>
   simp only [Exit.inBlock]
   simp only [blockE] at hk
   by_cases hid:id'=id
   ·rw [if_pos hid]
    subst hid
    rw [Nat.beq_refl] at hk
    exact ⟨env1,hr1,hf1,hk⟩
   ·rw [if_neg hid]
    have:Nat.beq id' id=false:=by
     cases hb:Nat.beq id' id with
     | false=>rfl
     | true=>exact absurd (Nat.eq_of_beq_eq_true hb) hid
    rw [this] at hk
    exact ⟨env1,hr1,hf1,hk⟩
  | _=>exact ⟨env1,hr1,hf1,hk⟩
 | loop c ih =>
  intro p K env a w hd hsel hn hr h
  unfold codeE at h
  cases hJ:H.J.get p with
  | none=>rw [hJ] at h;exact h.elim
  | some LU =>
   obtain ⟨L,U⟩:=LU
   rw [hJ] at h
   obtain ⟨hU,h2⟩:=cond_out h
   obtain ⟨s0,⟨I,μ,h0,hround⟩,hr0⟩:=absGet_out hr h2
   refine wp_loop_by (fun m a' w'=>∃s,I s w'∧μ s w'=m∧Rep (absMk L s) a'∧Fr (asg c) a a') ⟨s0,h0,rfl,hr0,Fr.refl _ _⟩ ?_
   rintro m a' w' ⟨s,hI,hmu,hrs,hf⟩
   refine wp_mono (ih hd hsel (hf.size.trans hn) (hr.join hf hU hrs) (hround s w' hI)) fun e a1 w1 hq => ?_
   obtain ⟨env1,hr1,hf1,hk⟩:=hq
   cases e with
   | normal =>
    obtain ⟨s1,⟨hI1,hlt⟩,hrs1⟩:=absGet_out hr1 hk
    exact ⟨μ s1 w1,by omega,s1,hI1,rfl,hrs1,hf.trans hf1⟩
   | _=>exact ⟨env1,hr1,hf.trans hf1,hk⟩
end
theorem retE_out {C:Ctx} (G:Good C) {a:Act} {w:World} {env:Env} (hr:Rep env a):∀ {rs:List ResultVar} {κ:List Value→PT},retE C rs env κ w →
  ∃vs,(rs.mapM fun r=>(match r with | .tmp t=>pure (a.tmps.getD t undef) | .cell p t=>do loadVar t (←asAddr (a.tmps.getD p undef)):Sem Value)).run C.P w = .ok vs w∧κ vs w
 | [],κ,h=>⟨[],rfl,h⟩
 | r::rs,κ,h=>by
  cases r with
  | tmp t =>
   unfold retE at h
   simp only at h
   cases he:lk env t with
   | none=>rw [he] at h;exact h.elim
   | some e =>
    rw [he] at h
    obtain ⟨vs,h1,h2⟩:=retE_out G hr h
    refine ⟨_,?_,h2⟩
    simp only [List.mapM_cons,Sem.run_bind,Sem.run_pure,Result.andThen_ok,h1,hr t e he]
  | cell p t =>
   unfold retE at h
   simp only at h
   cases he:lk env p with
   | none=>rw [he] at h;exact h.elim
   | some e =>
    rw [he] at h
    cases e<;>first|exact h.elim|skip
    obtain ⟨y,hy,h3⟩:=withT_out h
    obtain ⟨x,hx,hk,hn⟩:=ldT_out h3
    obtain ⟨vs,h1,h2⟩:=retE_out G hr hk
    refine ⟨_,?_,h2⟩
    have:=run_load_ok (G.T t y hy) hx hn
    rename_i q
    have ha:∀w',(asAddr (.pointer (some q))).run C.P w' = .ok q w':=fun _=>rfl
    simp only [List.mapM_cons,Sem.run_bind,Sem.run_pure,Result.andThen_ok,hr p _ he,Ent.val,ha,this,h1]
theorem args_rep:∀(es:List Ent) (i:Nat) (vs:List Value),vs.length=i→Rep (argsE i es) ⟨(vs++es.map Ent.val).toArray,[]⟩
 | [],_,_,_=>by intro s e h;cases h
 | e::es,i,vs,hi=>by
  intro s e' h
  simp only [argsE,lk] at h
  cases hb:Nat.beq i s with
  | true =>
   have:=Nat.eq_of_beq_eq_true hb
   subst this
   simp only [hb,cond_true,Option.some.injEq] at h
   subst h
   subst hi
   simp
  | false =>
   simp only [hb,cond_false] at h
   have:=args_rep es (i+1) (vs ++ [e.val]) (by simp [hi]) s e' h
   simpa using this
theorem fn_calls {C:Ctx} (G:Good C) {H:Hint} {gs:List Tg} {f:FuncId} {fn:Func} (hf:C.P.funcs[f]? = some fn) {es:List Ent} (hok:fnOk fn es.length=true) {κ:resT gs→PT} {w:World}
  (h:fnE C H gs fn es κ w):Calls C.P f (es.map Ent.val).toArray w fun e w'=>∃r,e = .returned (resMk gs r)∧κ r w':=by
 unfold fnE at h
 unfold fnOk at hok
 cases hb:fn.body with
 | none=>rw [hb] at h;exact h.elim
 | some c =>
  rw [hb] at h hok
  simp only [Bool.and_eq_true] at hok
  obtain ⟨⟨h1,h2⟩,h3⟩:=hok
  have hk:es.length≤fn.ntmps:=Nat.ble_eq.mp h3
  refine calls_of_wp hf hb ?_
  have hrep:Rep (argsE 0 es) ⟨(es.map Ent.val).toArray++Array.replicate (fn.ntmps-(es.map Ent.val).toArray.size) undef,[]⟩:=by
   intro s e hs
   have h4:=args_rep es 0 [] rfl s e hs
   simp only [List.nil_append] at h4
   simp only [Array.getD_eq_getD_getElem?,Array.getElem?_append] at h4 ⊢
   split
   ·exact h4
   ·rename_i hlt
    have hne:∀(es:List Ent) (i s:Nat) (e:Ent),lk (argsE i es) s=some e→s<i+es.length:=by
     intro es
     induction es with
     | nil=>intro i s e h;cases h
     | cons x es ih =>
      intro i s e h
      simp only [argsE,lk] at h
      cases hb:Nat.beq i s with
      | true=>have:=Nat.eq_of_beq_eq_true hb;simp;omega
      | false =>
       simp only [hb,cond_false] at h
       have:=ih (i+1) s e h
       simp
       omega
    have:=hne es 0 s e hs
    simp at hlt
    omega
  refine wp_mono (codeE_wp G (n:=fn.ntmps) (fun t ht=>Nat.blt_eq.mp (List.all_eq_true.1 h1 t ht)) h2 (by simp;omega) hrep h) fun e a' w' hq => ?_
  obtain ⟨env',hr',hf',hk'⟩:=hq
  have fin:retE C fn.results.toList env' (fun vs=>unR gs vs κ) w'→a'.defers = []∧∃v,(results fn a'.tmps).run C.P w' = .ok v w'∧∃r,Ending.returned v = .returned (resMk gs r)∧κ r w':=fun h=>by
   obtain ⟨vs,hv,hu⟩:=retE_out G hr' h
   obtain ⟨r,hr,rfl⟩:=unR_out hu
   refine ⟨hf'.defers,resMk gs r,?_,r,rfl,hr⟩
   have e1:results fn a'.tmps=(do let vs ←fn.results.mapM fun r=>(match r with | .tmp t=>pure (a'.tmps.getD t undef) | .cell p t=>do loadVar t (←asAddr (a'.tmps.getD p undef)):Sem Value);pure (if h:vs.size=1 then vs[0] else .tuple vs)):=rfl
   rw [e1, ←Array.toArray_toList (xs:=fn.results),List.mapM_toArray,Sem.run_bind,Sem.run_map]
   rw [hv]
   simp only [Result.andThen_ok,Sem.run_pure,resMk,Result.ok.injEq,and_true]
   rcases hl:resL gs r with _|⟨v,_|⟨v2,l⟩⟩<;>simp
  cases e with
  | normal=>exact fin hk'
  | ret=>exact fin hk'
  | _=>exact hk'.elim
end Go.Sx
