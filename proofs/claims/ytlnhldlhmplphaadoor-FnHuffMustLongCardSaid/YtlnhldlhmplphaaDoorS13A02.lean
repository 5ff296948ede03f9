/- Lemmas for the proof: C9 T M V N P00 P01 P02 P03. No conditions. -/
import Derived.Test.YtlnhldlhmplphaaDoorS13A01
set_option linter.unusedVariables false
set_option linter.unusedSimpArgs false
namespace Go.Sx
open Go
def cellB:Value→Value→Bool
 | .int k n,.int k' n'=>IntKind.same k k'&&decide (n=n')
 | .bool a,.bool b=>match a,b with
  | true,true=>true
  | false,false=>true
  | _,_=>false
 | .slice none l c,.slice none l' c'=>Nat.beq l l'&&Nat.beq c c'
 | .pointer none,.pointer none=>true
 | .nilIface,.nilIface=>true
 | .nilFunc,.nilFunc=>true
 | .string a,.string b=>a.data.toList.isEmpty&&b.data.toList.isEmpty
 | _,_=>false
def cellsB:List Value→List Value→Bool
 | [],[]=>true
 | a::r,b::s=>cellB a b&&cellsB r s
 | _,_=>false
theorem cellB_eq {a b:Value} (h:cellB a b=true):a=b:=by
 cases a<;>cases b<;>first|(simp [cellB] at h;done)|skip
 case bool.bool a b=>cases a<;>cases b<;>first|rfl|(simp [cellB] at h;done)
 case int.int =>
  simp only [cellB,Bool.and_eq_true,decide_eq_true_eq] at h
  rw [same_eq h.1,h.2]
 case string.string a b =>
  simp only [cellB,Bool.and_eq_true,List.isEmpty_iff] at h
  obtain ⟨⟨a⟩⟩:=a
  obtain ⟨⟨b⟩⟩:=b
  simp only at h
  rw [h.1,h.2]
 case pointer.pointer a b=>cases a<;>cases b<;>first|rfl|(simp [cellB] at h;done)
 case slice.slice a l c b l' c' =>
  cases a<;>cases b<;>first|(simp [cellB] at h;done)|skip
  simp only [cellB,Bool.and_eq_true] at h
  rw [Nat.eq_of_beq_eq_true h.1,Nat.eq_of_beq_eq_true h.2]
 all_goals rfl
theorem cellsB_eq:∀ {a b:List Value},cellsB a b=true→a=b
 | [],[],_=>rfl
 | x::r,y::s,h=>by
  simp only [cellsB,Bool.and_eq_true] at h
  rw [cellB_eq h.1,cellsB_eq h.2]
 | [],_::_,h=>by cases h
 | _::_,[],h=>by cases h
def aggD:TypeDesc→Bool
 | .struct _=>true
 | .array _ _=>true
 | _=>false
def fieldsB (P:Program):List Field→List (Nat×Nat×Bool)→Bool
 | [],[]=>true
 | f::r,(o,z,g)::s=>Nat.beq f.offset o&&(match P.info? f.type,P.underlying f.type with
   | some i,some d=>Nat.beq i.size z&&(match aggD d,g with
    | true,true=>true
    | false,false=>Nat.beq z 1
    | _,_=>false)
   | _,_=>false)&&fieldsB P r s
 | _,_=>false
def tyB (P:Program) (t:TypeId) (y:TyI):Bool :=
 match P.info? t,P.underlying t with
 | some i,some d =>
  Nat.beq i.size y.size&&Nat.beq i.bytes y.bytes &&
  (match y.zero with
   | none=>true
   | some zs=>match i.zero with
    | some v=>cellsB v.cells.toList zs&&Nat.beq zs.length y.size
    | none=>false) &&
  (match y.tg with
   | .c g=>Nat.beq y.size 1&&(match g with
    | .I k=>match d with
     | .int k'=>IntKind.same k' k
     | _=>false
    | _ => !aggD d)
   | .m ts=>aggD d&&Nat.beq ts.length y.size
   | .a n=>aggD d&&Nat.beq n y.size
   | .q=>false) &&
  (match y.k with
   | .other=>true
   | .bl=>match d with
    | .bool=>true
    | _=>false
   | .str=>match d with
    | .string=>true
    | _=>false
   | .ptr e=>match d with
    | .pointer e'=>Nat.beq e' e
    | _=>false
   | .ifc=>match d with
    | .interface _=>true
    | _=>false
   | .sl e=>match d with
    | .slice e'=>Nat.beq e' e
    | _=>false
   | .arr n e=>match d with
    | .array n' e'=>Nat.beq n' n&&Nat.beq e' e
    | _=>false
   | .st fs=>match d with
    | .struct fields=>fieldsB P fields.toList fs
    | _=>false)
 | _,_=>false
theorem fieldsB_ok {P:Program} : ∀ {fl:List Field} {fs:List (Nat×Nat×Bool)},fieldsB P fl fs=true→fs.length=fl.length ∧
  ∀(f o z:Nat) (g:Bool),fs[f]? = some (o,z,g)→∃fd i du,fl[f]? = some fd∧fd.offset=o∧P.info? fd.type=some i∧i.size=z ∧
   P.underlying fd.type=some du∧(match du with | .struct _ | .array _ _=>g=true|_=>g=false∧z=1)
 | [],[],_=>⟨rfl,fun f o z g h=>by simp at h⟩
 | [],_::_,h=>by cases h
 | _::_,[],h=>by cases h
 | fd::fl,(o,z,g)::fs,h=>by
  simp only [fieldsB,Bool.and_eq_true] at h
  obtain ⟨⟨h1,h2⟩,h3⟩:=h
  obtain ⟨h4,h5⟩:=fieldsB_ok h3
  refine ⟨by simp [h4],fun f o' z' g' hf => ?_⟩
  cases f with
  | succ f=>exact h5 f o' z' g' (by simpa using hf)
  | zero =>
   simp only [List.getElem?_cons_zero,Option.some.injEq,Prod.mk.injEq] at hf
   obtain ⟨rfl,rfl,rfl⟩:=hf
   cases hi:P.info? fd.type with
   | none=>simp [hi] at h2
   | some i =>
    cases hd:P.underlying fd.type with
    | none=>simp [hi,hd] at h2
    | some d =>
     simp only [hi,hd,Bool.and_eq_true] at h2
     refine ⟨fd,i,d,rfl,Nat.eq_of_beq_eq_true h1,hi,Nat.eq_of_beq_eq_true h2.1,hd,?_⟩
     have h6:=h2.2
     cases g
     ·cases d<;>first|(exact ⟨rfl,Nat.eq_of_beq_eq_true h6⟩)|(simp [aggD] at h6)
     ·cases d<;>first|rfl|(simp [aggD] at h6)
theorem tyB_ok {P:Program} {t:TypeId} {y:TyI} (h:tyB P t y=true):TyOk P t y:=by
 unfold tyB at h
 cases hi:P.info? t with
 | none=>rw [hi] at h;simp at h
 | some i =>
  cases hd:P.underlying t with
  | none=>rw [hi,hd] at h;simp at h
  | some d =>
   rw [hi,hd] at h
   simp only [Bool.and_eq_true] at h
   obtain ⟨⟨⟨⟨h1,h2⟩,h3⟩,h4⟩,h5⟩:=h
   refine ⟨fun g hg => ?_,⟨i,hi,Nat.eq_of_beq_eq_true h1,Nat.eq_of_beq_eq_true h2,fun zs hz => ?_⟩,d,hd,?_,?_⟩
   ·rw [hg] at h4
    simp only [Bool.and_eq_true] at h4
    exact Nat.eq_of_beq_eq_true h4.1
   ·rw [hz] at h3
    cases hv:i.zero with
    | none=>simp [hv] at h3
    | some v =>
     simp only [hv,Bool.and_eq_true] at h3
     exact ⟨v,rfl,by rw [←cellsB_eq h3.1],Nat.eq_of_beq_eq_true h3.2⟩
   ·cases hg:y.tg with
    | c g =>
     rw [hg] at h4
     simp only [Bool.and_eq_true] at h4
     have h6:=h4.2
     cases g with
     | I k =>
      cases d<;>first|(simp at h6;done)|skip
      exact congrArg TypeDesc.int (same_eq h6)
     | _=>cases d<;>first|trivial|(simp [aggD] at h6)
    | m ts =>
     rw [hg] at h4
     simp only [Bool.and_eq_true] at h4
     refine ⟨?_,Nat.eq_of_beq_eq_true h4.2⟩
     have h6:=h4.1
     cases d<;>first|trivial|(simp [aggD] at h6)
    | a n =>
     rw [hg] at h4
     simp only [Bool.and_eq_true] at h4
     refine ⟨?_,Nat.eq_of_beq_eq_true h4.2⟩
     have h6:=h4.1
     cases d<;>first|trivial|(simp [aggD] at h6)
    | q=>rw [hg] at h4;simp at h4
   ·cases hk:y.k<;>rw [hk] at h5
    case other=>trivial
    case bl=>cases d<;>first|rfl|(simp at h5;done)
    case str=>cases d<;>first|rfl|(simp at h5;done)
    case ptr e=>cases d<;>first|(exact congrArg TypeDesc.pointer (Nat.eq_of_beq_eq_true h5))|(simp at h5;done)
    case ifc=>cases d<;>first|exact ⟨_,rfl⟩|(simp at h5;done)
    case sl e=>cases d<;>first|(exact congrArg TypeDesc.slice (Nat.eq_of_beq_eq_true h5))|(simp at h5;done)
    case arr n e =>
     cases d<;>first|(simp at h5;done)|skip
     simp only [Bool.and_eq_true] at h5
     rw [Nat.eq_of_beq_eq_true h5.1,Nat.eq_of_beq_eq_true h5.2]
    case st fs =>
     cases d<;>first|(simp at h5;done)|skip
     rename_i fields
     obtain ⟨h6,h7⟩:=fieldsB_ok h5
     refine ⟨fields,rfl,by simpa using h6,fun f o z g hf => ?_⟩
     obtain ⟨fd,i,du,e1,e2⟩:=h7 f o z g hf
     exact ⟨fd,i,du,by simpa using e1,e2⟩
def Tr.all {α:Type} (p:Nat→α→Bool):Tr α→Bool
 | .e=>true
 | .n l k v r=>l.all p&&(p k v&&r.all p)
theorem Tr.all_get {α:Type} {p:Nat→α→Bool} : ∀ {T:Tr α} {k:Nat} {v:α},T.all p=true→T.get k=some v→p k v=true
 | .e,_,_,_,h=>by cases h
 | .n l k' v' r,k,v,h,hg=>by
  simp only [Tr.all,Bool.and_eq_true] at h
  simp only [Tr.get] at hg
  cases h1:Nat.blt k k' with
  | true=>rw [h1] at hg;exact Tr.all_get h.1 hg
  | false =>
   rw [h1] at hg
   simp only [cond_false] at hg
   cases h2:Nat.blt k' k with
   | true=>rw [h2] at hg;exact Tr.all_get h.2.2 hg
   | false =>
    rw [h2] at hg
    simp only [cond_false,Option.some.injEq] at hg
    have h3:¬k<k':=fun hh=>by have:=Nat.blt_eq.mpr hh;rw [h1] at this;cases this
    have h4:¬k'<k:=fun hh=>by have:=Nat.blt_eq.mpr hh;rw [h2] at this;cases this
    have:k'=k:=by omega
    subst this
    subst hg
    exact h.2.1
theorem good_of {C:Ctx} (h1:C.T.all (tyB C.P)=true) (h2:C.R.all (fun f _=>hasFn C.P f)=true) (h3:C.P.follows .mixedOrders=true):Good C :=
 ⟨fun _ _ h=>tyB_ok (Tr.all_get h1 h),fun _ _ h=>Tr.all_get h2 h,h3⟩
end Go.Sx
namespace Go.Sx
open Go Go.Proofs
set_option maxRecDepth 100000
def z3:List Value := [(.int .i64 (0))]
def z4:List Value := [(.bool false)]
def z5:List Value := [(.int .u8 (0))]
def z22:List Value := [(.slice none 0 0)]
def z24:List Value := [(.slice none 0 0)]
def z74:List Value:=List.replicate 256 (.bool false)
def z79:List Value := [(.int .u32 (0))]
def z80:List Value:=List.replicate 256 (.int .u32 (0))
def z81:List Value := [(.int .u16 (0))]
def z94:List Value:=List.replicate 256 (.int .u32 (0))++(List.replicate 3 (.slice none 0 0)++(List.replicate 2 (.int .i64 (0))++(List.replicate 4 (.int .u8 (0))++([(.int .u16 (0))]++([(.int .i64 (0))]++([(.bool false)]++(List.replicate 2 (.int .u8 (0))++(List.replicate 8 (.slice none 0 0)++([(.pointer none)]++(List.replicate 256 (.int .u8 (0))))))))))))
def z109:List Value := [(.int .i64 (0)),(.int .i64 (0))]
def z113:List Value := [(.int .i64 (0)),(.int .i64 (0)),(.int .i64 (0))]
def z115:List Value := [(.slice none 0 0),(.int .i64 (0))]
def z134:List Value:=List.replicate 256 (.int .u32 (0))++(List.replicate 256 (.int .i16 (0))++([(.slice none 0 0)]++([(.int .i64 (0))]++([(.slice none 0 0)]++(List.replicate 2 (.int .u64 (0))++([(.int .u8 (0))]++([(.int .u64 (0))]++([(.int .u8 (0))]++(List.replicate 5 (.slice none 0 0)++([(.int .i64 (0))]++([(.slice none 0 0)]++([(.int .i64 (0))]++([(.int .u16 (0))]++([(.int .u8 (0))]++(List.replicate 2 (.bool false)++(List.replicate 2 (.int .u8 (0))))))))))))))))))
def z136:List Value:=List.replicate 16 (.int .u32 (0))
def z137:List Value:=List.replicate 64 (.int .u32 (0))
def z140:List Value := [(.int .u16 (0)),(.int .u8 (0))]
def z142:List Value := [(.int .u16 (0))]
def z148:List Value := [(.slice none 0 0),(.int .i64 (0)),(.bool false),(.slice none 0 0)]
def z155:List Value := [(.int .i64 (0)),(.int .i64 (0)),(.int .i64 (0))]
def z162:List Value := [(.string ⟨#[]⟩)]
def z167:List Value:=List.replicate 12 (.int .u8 (0))
def z180:List Value := [(.int .u16 (0)),(.int .u8 (0)),(.int .u8 (0))]
def z185:List Value := [(.int .u16 (0)),(.pointer none),(.slice none 0 0)]
def z196:List Value := [(.int .u64 (0))]
def z202:List Value:=List.replicate 12 (.int .u16 (0))
def z203:List Value:=List.replicate 16 (.int .u16 (0))
def z208:List Value:=List.replicate 257 (.int .i16 (0))
def z210:List Value := [(.int .i32 (0)),(.int .u32 (0))]
def z213:List Value := [(.pointer none),(.slice none 0 0),(.int .u16 (0))]
def z219:List Value := [(.int .u64 (0)),(.int .u8 (0)),(.slice none 0 0)]
def z222:List Value := [(.int .u64 (0)),(.int .u64 (0)),(.int .i64 (0))]
def z229:List Value:=List.replicate 64 (.int .u32 (0))
def z233:List Value:=List.replicate 13 (.int .u32 (0))
def TT:Tr TyI:=(.n (.n (.n (.n (.n (.n (.n .e 3 (⟨.c (.I .i64),.other,1,8,some z3⟩) .e) 4 (⟨.c .B,.bl,1,1,some z4⟩) .e) 5 (⟨.c (.I .u8),.other,1,1,some z5⟩) (.n .e 9 (⟨.c .V,.str,1,16,none⟩) .e)) 21 (⟨.c (.I .i32),.other,1,4,none⟩) (.n (.n (.n .e 22 (⟨.c .S,.sl 5,1,24,some z22⟩) .e) 24 (⟨.c .S,.sl 3,1,24,some z24⟩) .e) 44 (⟨.c .S,.sl 79,1,24,none⟩) (.n .e 49 (⟨.c .S,.sl 22,1,24,none⟩) .e))) 52 (⟨.c .S,.sl 4,1,24,none⟩) (.n (.n (.n (.n .e 66 (⟨.c .P,.ptr 94,1,8,none⟩) .e) 68 (⟨.c .V,.ifc,1,16,none⟩) .e) 72 (⟨.c .V,.other,1,8,none⟩) (.n .e 74 (⟨.a 256,.arr 256 4,256,256,some z74⟩) .e)) 75 (⟨.c (.I .u64),.other,1,8,none⟩) (.n (.n (.n .e 78 (⟨.c (.I .u8),.other,1,1,none⟩) .e) 79 (⟨.c (.I .u32),.other,1,4,some z79⟩) .e) 80 (⟨.a 256,.arr 256 79,256,1024,some z80⟩) (.n .e 81 (⟨.c (.I .u16),.other,1,2,some z81⟩) .e)))) 82 (⟨.c .S,.sl 140,1,24,none⟩) (.n (.n (.n (.n (.n .e 83 (⟨.c .S,.sl 140,1,24,none⟩) .e) 84 (⟨.c .S,.sl 142,1,24,none⟩) .e) 86 (⟨.m [.S],.st [(0,1,false)],1,24,none⟩) (.n .e 87 (⟨.c .S,.sl 196,1,24,none⟩) .e)) 89 (⟨.c .P,.ptr 134,1,8,none⟩) (.n (.n (.n .e 92 (⟨.a 256,.arr 256 5,256,256,none⟩) .e) 94 (⟨.a 535,.st [(0,256,true),(256,1,false),(257,1,false),(258,1,false),(259,1,false),(260,1,false),(261,1,false),(262,1,false),(263,1,false),(264,1,false),(265,1,false),(266,1,false),(267,1,false),(268,1,false),(269,1,false),(270,1,false),(271,1,false),(272,1,true),(273,1,false),(274,4,true),(278,1,false),(279,0,true),(279,256,true)],535,1592,some z94⟩) .e) 99 (⟨.c .S,.sl 24,1,24,none⟩) (.n .e 105 (⟨.c .S,.sl 113,1,24,none⟩) .e))) 108 (⟨.c .P,.ptr 115,1,8,none⟩) (.n (.n (.n (.n .e 109 (⟨.m [(.I .i64),(.I .i64)],.arr 2 3,2,16,some z109⟩) .e) 113 (⟨.m [(.I .i64),(.I .i64),(.I .i64)],.st [(0,1,false),(1,1,false),(2,1,false)],3,24,some z113⟩) .e) 115 (⟨.m [.S,(.I .i64)],.st [(0,1,false),(1,1,false)],2,32,some z115⟩) (.n .e 119 (⟨.c (.I .i16),.other,1,2,none⟩) .e)) 120 (⟨.a 256,.arr 256 119,256,512,none⟩) (.n (.n (.n .e 122 (⟨.m [.S,(.I .i64)],.st [(0,1,false),(1,1,false)],2,32,none⟩) .e) 123 (⟨.c (.I .u64),.other,1,8,none⟩) .e) 125 (⟨.m [.S,(.I .u64),(.I .u64),(.I .u8)],.st [(0,1,false),(1,1,false),(2,1,false),(3,1,false)],4,48,none⟩) (.n .e 127 (⟨.m [(.I .u64),(.I .u8),.S],.st [(0,1,false),(1,1,false),(2,1,false)],3,40,none⟩) .e))))) 128 (⟨.c .S,.sl 81,1,24,none⟩) (.n (.n (.n (.n (.n (.n .e 129 (⟨.c .S,.sl 210,1,24,none⟩) .e) 131 (⟨.m [.S,.S,.S],.st [(0,1,false),(1,1,false),(2,1,false)],3,72,none⟩) .e) 132 (⟨.c .S,.sl 180,1,24,none⟩) (.n .e 134 (⟨.a 534,.st [(0,256,true),(256,256,true),(512,2,true),(514,4,true),(518,3,true),(521,3,true),(524,1,false),(525,1,false),(526,1,false),(527,1,false),(528,1,false),(529,1,false),(530,1,false),(531,1,false),(532,1,false),(533,1,false)],534,1800,some z134⟩) .e)) 136 (⟨.a 16,.arr 16 79,16,64,some z136⟩) (.n (.n (.n .e 137 (⟨.a 64,.arr 4 136,64,256,some z137⟩) .e) 140 (⟨.m [(.I .u16),(.I .u8)],.st [(0,1,false),(1,1,false)],2,4,some z140⟩) .e) 142 (⟨.m [(.I .u16)],.st [(0,1,false)],1,2,some z142⟩) (.n .e 146 (⟨.c .P,.ptr 148,1,8,none⟩) .e))) 148 (⟨.m [.S,(.I .i64),.B,.S],.st [(0,1,false),(1,1,false),(2,1,false),(3,1,false)],4,64,some z148⟩) (.n (.n (.n (.n .e 152 (⟨.c .S,.sl 155,1,24,none⟩) .e) 155 (⟨.m [(.I .i64),(.I .i64),(.I .i64)],.st [(0,1,false),(1,1,false),(2,1,false)],3,24,some z155⟩) .e) 157 (⟨.c .P,.ptr 80,1,8,none⟩) (.n .e 160 (⟨.c .P,.ptr 162,1,8,none⟩) .e)) 162 (⟨.m [.V],.st [(0,1,false)],1,16,some z162⟩) (.n (.n (.n .e 167 (⟨.a 12,.arr 12 5,12,12,some z167⟩) .e) 174 (⟨.c .P,.ptr 122,1,8,none⟩) .e) 178 (⟨.c .S,.sl 119,1,24,none⟩) (.n .e 180 (⟨.m [(.I .u16),(.I .u8),(.I .u8)],.st [(0,1,false),(1,1,false),(2,1,false)],3,4,some z180⟩) .e)))) 181 (⟨.c .P,.ptr 125,1,8,none⟩) (.n (.n (.n (.n (.n .e 185 (⟨.m [(.I .u16),.P,.S],.st [(0,1,false),(1,1,false),(2,1,false)],3,40,some z185⟩) .e) 196 (⟨.c (.I .u64),.other,1,8,some z196⟩) .e) 202 (⟨.a 12,.arr 12 81,12,24,some z202⟩) (.n .e 203 (⟨.a 16,.arr 16 81,16,32,some z203⟩) .e)) 207 (⟨.m [(.I .u32),(.I .u32),(.I .u32),(.I .u32),(.I .u32),(.I .u32),(.I .u32),(.I .u32)],.arr 8 79,8,32,none⟩) (.n (.n (.n .e 208 (⟨.a 257,.arr 257 119,257,514,some z208⟩) .e) 210 (⟨.m [(.I .i32),(.I .u32)],.st [(0,1,false),(1,1,false)],2,8,some z210⟩) .e) 211 (⟨.c .P,.ptr 127,1,8,none⟩) (.n .e 213 (⟨.m [.P,.S,(.I .u16)],.st [(0,1,false),(1,1,false),(2,1,false)],3,40,some z213⟩) .e))) 215 (⟨.c .P,.ptr 131,1,8,none⟩) (.n (.n (.n (.n .e 219 (⟨.m [(.I .u64),(.I .u8),.S],.st [(0,1,false),(1,1,false),(2,1,false)],3,40,some z219⟩) .e) 222 (⟨.m [(.I .u64),(.I .u64),(.I .i64)],.st [(0,1,false),(1,1,false),(2,1,false)],3,24,some z222⟩) .e) 228 (⟨.m [(.I .u32),(.I .u32)],.st [(0,1,false),(1,1,false)],2,8,none⟩) (.n .e 229 (⟨.a 64,.arr 32 228,64,256,some z229⟩) .e)) 230 (⟨.c .S,.sl 228,1,24,none⟩) (.n (.n (.n .e 233 (⟨.a 13,.arr 13 79,13,52,some z233⟩) .e) 234 (⟨.m [],.st [],0,0,none⟩) .e) 238 (⟨.c .P,.ptr 219,1,8,none⟩) (.n .e 240 (⟨.a 32,.arr 32 81,32,64,none⟩) .e))))))
def RR:Tr (List Tg):=(.n (.n (.n (.n (.n (.n (.n (.n .e 3 [.c .B] .e) 4 [.c .B] .e) 5 [.c .B] (.n (.n .e 6 [.c .B] .e) 7 [.c .B] .e)) 8 [.c .B] (.n (.n (.n .e 9 [.c .B] .e) 10 [.c .B] .e) 11 [.c .B] (.n .e 12 [.c .B] .e))) 13 [.c .B] (.n (.n (.n (.n .e 14 [.c .B] .e) 15 [.c .S,.c (.I .i64),.c .B] .e) 16 [.c .S,.c .B] (.n .e 17 [.c .B] .e)) 18 [.c .S] (.n (.n (.n .e 19 [.c .S] .e) 20 [.c .S,.c .B] .e) 21 [.c .B] (.n .e 22 [.c .B] .e)))) 23 [.c .B] (.n (.n (.n (.n (.n .e 24 [.c .S,.c .S,.c .S,.c (.I .i64)] .e) 25 [.c .B] .e) 26 [.c .S,.c .B] (.n .e 27 [.c .B] .e)) 28 [.c (.I .i64)] (.n (.n (.n .e 29 [.c .B] .e) 30 [.c .S] .e) 31 [.c .S,.c .B] (.n .e 32 [.c .B] .e))) 33 [.c .B] (.n (.n (.n (.n .e 34 [.c (.I .i64)] .e) 35 [.c .S,.c .S,.c .S,.c .S] .e) 36 [.c .B] (.n .e 37 [.c .S,.c .S,.c .S,.c (.I .i64)] .e)) 38 [.c .S,.c (.I .i64)] (.n (.n (.n .e 39 [.c .S,.c (.I .i64)] .e) 40 [.c (.I .i64)] .e) 41 [.c .S,.c (.I .i64)] (.n .e 42 [.c .B] .e))))) 43 [.c .S,.c (.I .i64),.c .B] (.n (.n (.n (.n (.n (.n .e 44 [.c (.I .i64)] .e) 45 [.c .P,.c .S,.c .V] .e) 46 [.c .S,.c .V] (.n (.n .e 47 [.c .S] .e) 48 [.c .S,.c .B] .e)) 49 [.c .S,.c (.I .i64),.c .S,.c .B] (.n (.n (.n .e 50 [.c .S,.c .B,.c .V] .e) 51 [.c (.I .i64)] .e) 52 [.c .S,.c .B] (.n .e 53 [.c .S] .e))) 54 [.c .S] (.n (.n (.n (.n .e 55 [] .e) 56 [.c .P,.c .V] .e) 57 [.c .S,.c .B] (.n .e 58 [.c .P,.m [(.I .i64),(.I .i64)],.c .B] .e)) 59 [.c (.I .i64)] (.n (.n (.n .e 60 [.c .S,.c .B] .e) 61 [.c .P,.c .V] .e) 62 [.c .V] (.n .e 63 [.c .S,.c .V] .e)))) 64 [.c (.I .u32)] (.n (.n (.n (.n (.n .e 65 [.c .V] .e) 66 [.c .S,.c .B] .e) 67 [.c (.I .i64)] (.n .e 68 [.c (.I .i64)] .e)) 69 [] (.n (.n (.n .e 70 [.c .S,.c .B,.c .V] .e) 71 [.c .S,.c .B,.c .V] .e) 72 [.c .P,.c .B] (.n .e 73 [.c .S] .e))) 74 [.c .V] (.n (.n (.n (.n .e 75 [.c .S] .e) 76 [.c (.I .i64),.c .B] .e) 77 [.c .P,.c .V] (.n .e 78 [.c .V] .e)) 79 [.c .V] (.n (.n (.n .e 80 [.c .V] .e) 81 [.c (.I .i64)] .e) 82 [.c .S] (.n .e 83 [] .e)))))) 84 [.c .S,.c .V] (.n (.n (.n (.n (.n (.n (.n .e 85 [.c .S,.c .B] .e) 86 [.c .S,.c .B] .e) 87 [.c (.I .i64),.c .B] (.n (.n .e 88 [.c .S,.c .B,.c .V] .e) 89 [.c .S,.c .V] .e)) 90 [.c .S,.c .V] (.n (.n (.n .e 91 [.c .V] .e) 92 [] .e) 93 [.c (.I .i64)] (.n .e 94 [.c (.I .u32)] .e))) 95 [] (.n (.n (.n (.n .e 96 [] .e) 97 [.c (.I .u32)] .e) 98 [.c (.I .u32)] (.n .e 99 [.c .V] .e)) 100 [.c .S] (.n (.n (.n .e 101 [] .e) 102 [] .e) 103 [.c (.I .u8)] (.n .e 104 [.c (.I .u8)] .e)))) 105 [.c .B] (.n (.n (.n (.n (.n .e 106 [.c (.I .u8)] .e) 107 [] .e) 108 [.c .V] (.n .e 109 [.c (.I .i64)] .e)) 110 [] (.n (.n (.n .e 111 [.c .V] .e) 112 [.c .V] .e) 113 [.c .V] (.n .e 114 [.c .V] .e))) 115 [.c .S,.c .B] (.n (.n (.n (.n .e 116 [.c .S] .e) 117 [.c (.I .i64),.c .B] .e) 118 [.c .B] (.n .e 119 [.c (.I .i64)] .e)) 120 [.c .S] (.n (.n (.n .e 121 [] .e) 122 [] .e) 123 [.c (.I .u32)] (.n .e 124 [] .e))))) 125 [] (.n (.n (.n (.n (.n (.n .e 126 [] .e) 127 [.c (.I .u16)] .e) 128 [.c (.I .u8)] (.n .e 129 [.c (.I .u8)] .e)) 130 [.c (.I .u8)] (.n (.n (.n .e 131 [] .e) 132 [.c (.I .u16)] .e) 133 [.c (.I .u16)] (.n .e 134 [.c .B] .e))) 135 [.c (.I .u8)] (.n (.n (.n (.n .e 136 [.c .V] .e) 137 [] .e) 138 [] (.n .e 139 [] .e)) 140 [] (.n (.n (.n .e 141 [] .e) 142 [] .e) 143 [] (.n .e 144 [] .e)))) 145 [.c .B] (.n (.n (.n (.n (.n .e 146 [.c .S] .e) 147 [] .e) 148 [.c .S] (.n .e 149 [.m [(.I .u64),(.I .u64),(.I .i64)]] .e)) 150 [.m [(.I .u64),(.I .u64),(.I .i64)]] (.n (.n (.n .e 151 [.c (.I .u64),.c (.I .u64)] .e) 152 [] .e) 153 [.c (.I .u8)] (.n .e 154 [.c (.I .u64)] .e))) 155 [.c (.I .u64)] (.n (.n (.n (.n .e 156 [] .e) 157 [] .e) 158 [] (.n .e 159 [] .e)) 160 [] (.n (.n (.n .e 161 [] .e) 162 [] .e) 163 [] (.n .e 164 [] .e)))))))
noncomputable def Cx:Ctx:=⟨Tryd.prog,TT,RR⟩
theorem good:Good Cx:=good_of (by kernel_rfl) (by kernel_rfl) (by kernel_rfl)
theorem of_eq {f:FuncId} {fn:Func} {H:Hint} {gs:List Tg} {es:List Ent} {n:Nat} {args:Array Value} {κ:resT gs→PT} {q:PT} {w:World} (hf:Tryd.prog.funcs[f]? = some fn)
  (hok:fnOk fn n=true) (hn:es.length=n) (ha:(es.map Ent.val).toArray=args) (hq:fnE Cx H gs fn es κ=q) (h:q w) :
  Calls Tryd.prog f args w fun e w'=>∃r,e = .returned (resMk gs r)∧κ r w':=by
 subst hn ha
 rw [←hq] at h
 exact fn_calls good hf hok h
end Go.Sx
namespace Go.Sx
open Go Go.IntWalk
abbrev Cells:=Nat→Option Value
structure Blk (w:World) (b:Nat) (f:Cells):Prop where
 cell:∀i,w.cell? ⟨b,i,none⟩=f i
 froz:∀i,w.frozen? ⟨b,i,none⟩=false
 lt:b<w.heap.size
def updC (f:Cells) (o:Nat) (v:Value):Cells:=fun i=>if i=o then some v else f i
theorem add_mk (b o n:Nat):Addr.add ⟨b,o,none⟩ n=⟨b,o+n,none⟩:=by
 unfold Addr.add
 split
 ·subst_vars;rfl
 ·rfl
theorem heap_setCell_ne {w:World} {a:Addr} {v:Value} {b:Nat} (h:b≠a.block):(w.setCell a v).heap[b]? = w.heap[b]? := by
 unfold World.setCell
 simp only [Array.getElem?_modify]
 rw [if_neg (fun e=>h e.symm)]
theorem cell?_of_heap {w w':World} {b:Nat} (h:w'.heap[b]? = w.heap[b]?) (i:Nat) (s:Option Nat):w'.cell? ⟨b,i,s⟩=w.cell? ⟨b,i,s⟩:=by
 unfold World.cell?
 simp only [h]
theorem frozen?_of_heap {w w':World} {b:Nat} (h:w'.heap[b]? = w.heap[b]?) (i:Nat) (s:Option Nat):w'.frozen? ⟨b,i,s⟩=w.frozen? ⟨b,i,s⟩:=by
 unfold World.frozen?
 simp only [h]
structure Fm (w w':World) (S:List Nat):Prop where
 os:w'.os=w.os
 tape:w'.tape=w.tape
 out:w'.output=w.output
 size:w.heap.size≤w'.heap.size
 old:∀b,b<w.heap.size→b∉S→w'.heap[b]? = w.heap[b]?
theorem Fm.refl (w:World) (S:List Nat):Fm w w S:=⟨rfl,rfl,rfl,Nat.le_refl _,fun _ _ _=>rfl⟩
theorem Fm.drew {w w':World} {S:List Nat} (h:Fm w w' S):Fm w w'.drew S:=⟨h.os,h.tape,h.out,h.size,h.old⟩
theorem Fm.alloc {w w':World} {S:List Nat} {o:Obj} (h:Fm w w' S):Fm w (w'.alloc o) S:=by
 refine ⟨h.os,h.tape,h.out,?_,?_⟩
 ·have:=h.size;rw [World.size_alloc];omega
 ·intro b hb hS
  rw [←h.old b hb hS]
  show (w'.heap.push o)[b]? = _
  have:=h.size
  rw [Array.getElem?_push_lt (by omega),Array.getElem?_eq_getElem (by omega)]
theorem Fm.set {w w':World} {S:List Nat} {a:Addr} {v:Value} (h:Fm w w' S) (ha:a.block∈S∨w.heap.size≤a.block):Fm w (w'.setCell a v) S:=by
 refine ⟨h.os,h.tape,h.out,?_,?_⟩
 ·rw [World.size_setCell];exact h.size
 ·intro b hb hS
  rw [←h.old b hb hS]
  apply heap_setCell_ne
  intro e
  subst e
  rcases ha with ha|ha
  ·exact hS ha
  ·omega
theorem Fm.trans {w0 w1 w2:World} {S S':List Nat} (h:Fm w0 w1 S) (h':Fm w1 w2 S') (hs:∀b∈S',b∈S∨w0.heap.size≤b):Fm w0 w2 S:=by
 refine ⟨h'.os.trans h.os,h'.tape.trans h.tape,h'.out.trans h.out,Nat.le_trans h.size h'.size,?_⟩
 intro b hb hS
 have h1:=h.size
 rw [h'.old b (by omega) (fun e=>(hs b e).elim hS (fun e=>by omega)),h.old b hb hS]
theorem Fm.mono {w w':World} {S S':List Nat} (h:Fm w w' S) (hs:∀b∈S,b∈S'∨w.heap.size≤b):Fm w w' S' :=
 ⟨h.os,h.tape,h.out,h.size,fun b hb hS=>h.old b hb (fun e=>(hs b e).elim hS (fun e=>by omega))⟩
theorem Blk.fr {w w':World} {b:Nat} {f:Cells} {S:List Nat} (h:Blk w b f) (h':Fm w w' S) (hS:b∉S):Blk w' b f :=
 ⟨fun i=>(cell?_of_heap (h'.old b h.lt hS) i none).trans (h.cell i),fun i=>(frozen?_of_heap (h'.old b h.lt hS) i none).trans (h.froz i),Nat.lt_of_lt_of_le h.lt h'.size⟩
theorem Blk.drew {w:World} {b:Nat} {f:Cells} (h:Blk w b f):Blk w.drew b f:=⟨h.cell,h.froz,h.lt⟩
theorem Blk.alloc {w:World} {b:Nat} {f:Cells} {o:Obj} (h:Blk w b f):Blk (w.alloc o) b f:=h.fr ((Fm.refl w []).alloc) (by simp)
theorem Blk.other {w:World} {b:Nat} {f:Cells} {a:Addr} {v:Value} (h:Blk w b f) (hb:b≠a.block):Blk (w.setCell a v) b f :=
 h.fr ((Fm.refl w [a.block]).set (.inl (by simp))) (by simpa using hb)
theorem Blk.set {w:World} {b o:Nat} {f:Cells} {v:Value} (h:Blk w b f) (ho:(f o).isSome):Blk (w.setCell ⟨b,o,none⟩ v) b (updC f o v):=by
 refine ⟨?_,?_,?_⟩
 ·intro i
  unfold updC
  split
  ·subst_vars
   obtain ⟨u,hu⟩:=Option.isSome_iff_exists.mp ho
   exact World.cell?_setCell_same _ _ _ ((h.cell _).trans hu)
  ·rename_i hne
   rw [World.cell?_setCell_other _ _ _ _ (by intro e;injection e with _ e2 _;exact hne e2.symm)]
   exact h.cell i
 ·intro i
  rw [World.frozen?_setCell]
  exact h.froz i
 ·rw [World.size_setCell];exact h.lt
theorem Blk.new {w:World} {cs:Array Value} {T:TypeId} : Blk (w.alloc (.cells cs T)) w.heap.size fun i=>cs[i]? := by
 refine ⟨?_,?_,?_⟩
 ·intro i;simp
 ·intro i;simp
 ·rw [World.size_alloc];omega
theorem Blk.congr {w:World} {b:Nat} {f g:Cells} (h:Blk w b f) (e:f=g):Blk w b g:=e▸h
theorem ld_b {w:World} {b o:Nat} {f:Cells} {t:CT} {x:t.ty} {κ:t.ty→PT} (h:Blk w b f) (hx:f o=some (t.mk x)) (hk:κ x w):ld t ⟨b,o,none⟩ κ w:=⟨x,(h.cell o).trans hx,hk⟩
theorem canSt_b {w:World} {b o:Nat} {f:Cells} (h:Blk w b f) (hx:(f o).isSome):canSt w ⟨b,o,none⟩:=by
 obtain ⟨u,hu⟩:=Option.isSome_iff_exists.mp hx
 exact ⟨⟨u,(h.cell o).trans hu⟩,h.froz o⟩
theorem st_b {w:World} {b o:Nat} {f:Cells} {v:Value} {κ:PT} (h:Blk w b f) (hx:(f o).isSome) (hv:one v=true) (hk:κ (w.setCell ⟨b,o,none⟩ v)):st ⟨b,o,none⟩ v κ w :=
 ⟨hv,canSt_b h hx,hk⟩
theorem ixS_b {w:World} {sz b o k:Nat} {s:Sl} {i:Int} {κ:Addr→PT} (ha:s.a=some ⟨b,o,none⟩) (hi:i=k) (hk:k<s.l) (h:κ ⟨b,o+k*sz,none⟩ w):ixS sz s i κ w :=
 ⟨_,ha,k,hi,hk,by rw [add_mk];exact h⟩
theorem ixA_b {w:World} {sz n b o k:Nat} {i:Int} {κ:Addr→PT} (hi:i=k) (hk:k<n) (h:κ ⟨b,o+k*sz,none⟩ w):ixA sz n ⟨b,o,none⟩ i κ w :=
 ⟨k,hi,hk,by rw [add_mk];exact h⟩
theorem cnd_d {p:Prop} [Decidable p] {x y:PT} {w:World} (h1:p→x w) (h2:¬p→y w):cnd (decide p) x y w :=
 ⟨fun h=>h1 (of_decide_eq_true h),fun h=>h2 (of_decide_eq_false h)⟩
theorem cnd_nd {p:Prop} [Decidable p] {x y:PT} {w:World} (h1:¬p→x w) (h2:p→y w):cnd (!decide p) x y w :=
 ⟨fun h=>h1 (by simpa using h),fun h=>h2 (by simpa using h)⟩
theorem joinP_id {α:Type} {X:(α→PT)→PT} {Y:α→PT} {w:World} (h:X Y w):joinP X Y w:=⟨Y,fun _ _ h=>h,h⟩
structure Arr (k:IntKind) (w:World) (s:Sl) (l:List Nat):Prop where
 len:s.l=l.length
 cap:s.l≤s.c
 non:s.a=none→l = []
 get:∀b,s.a=some b→∀i (h:i<l.length),w.cell? (b.add i)=some (.int k (l[i]:Nat))
theorem Arr.fr {k:IntKind} {w w':World} {s:Sl} {l:List Nat} {S:List Nat} (h:Arr k w s l) (h':Fm w w' S) (hS:∀a,s.a=some a→l ≠ []→a.block∉S):Arr k w' s l:=by
 refine ⟨h.len,h.cap,h.non,?_⟩
 intro b hb i hi
 have h1:=h.get b hb i hi
 rw [←h1]
 have h2:=World.block_lt_of_cell? _ _ h1
 have h3:(b.add i).block=b.block:=by unfold Addr.add;split<;>rfl
 rw [h3] at h2
 have h4:=h'.old b.block h2 (hS b hb (by intro e;subst e;simp at hi))
 have h5:b.add i=⟨b.block,(b.add i).off,(b.add i).spot⟩:=by rw [←h3]
 rw [h5]
 exact cell?_of_heap h4 _ _
theorem wI8 {x:Int} (h1 : -128≤x) (h2:x<128):IntKind.i8.wrap x=x:=i8_in x ⟨h1,by omega⟩
theorem wI16 {x:Int} (h1 : -32768≤x) (h2:x<32768):IntKind.i16.wrap x=x:=i16_in x ⟨h1,by omega⟩
theorem wI32 {x:Int} (h1 : -2147483648≤x) (h2:x<2147483648):IntKind.i32.wrap x=x:=i32_in x ⟨h1,by omega⟩
theorem wI64 {x:Int} (h1 : -9223372036854775808≤x) (h2:x<9223372036854775808):IntKind.i64.wrap x=x:=i64_in x ⟨h1,by omega⟩
theorem wU8 {x:Int} (h1:0≤x) (h2:x<256):IntKind.u8.wrap x=x:=u8_in x ⟨h1,by omega⟩
theorem wU16 {x:Int} (h1:0≤x) (h2:x<65536):IntKind.u16.wrap x=x:=u16_in x ⟨h1,by omega⟩
theorem wU32 {x:Int} (h1:0≤x) (h2:x<4294967296):IntKind.u32.wrap x=x:=u32_in x ⟨h1,by omega⟩
theorem wU64 {x:Int} (h1:0≤x) (h2:x<18446744073709551616):IntKind.u64.wrap x=x:=u64_in x ⟨h1,by omega⟩
theorem wrap_nat (k:IntKind) (n:Nat) (h:n<2^(k.bits-1)):k.wrap (n:Int)=n:=by
 cases k<;>simp only [IntKind.bits] at h<;>first
  | exact wI8 (by omega) (by omega)|exact wI16 (by omega) (by omega)|exact wI32 (by omega) (by omega)|exact wI64 (by omega) (by omega)
  | exact wU8 (by omega) (by omega)|exact wU16 (by omega) (by omega)|exact wU32 (by omega) (by omega)|exact wU64 (by omega) (by omega)
theorem wrap_u {k:IntKind} (hk:k.signed=false) (n:Nat):k.wrap (n:Int)=(n%2^k.bits:Nat):=by
 unfold IntKind.wrap
 simp only [hk,Bool.false_and,Bool.false_eq_true,if_false]
 norm_cast
end Go.Sx
namespace Go.Sx
open Go
def updL (f:Cells) (o:Nat) (xs:List Value):Cells:=fun i=>if o≤i∧i<o+xs.length then xs[i-o]? else f i
theorem updL_nil (f:Cells) (o:Nat):updL f o []=f:=by
 funext i;unfold updL;rw [if_neg (by simp)]
theorem updL_cons (f:Cells) (o:Nat) (v:Value) (xs:List Value):updL (updC f o v) (o+1) xs=updL f o (v::xs):=by
 funext i;unfold updL updC
 by_cases h1:o+1≤i∧i<o+1+xs.length
 ·rw [if_pos h1,if_pos (by simp;omega)]
  rw [show i-o=(i-(o+1))+1 by omega,List.getElem?_cons_succ]
 ·rw [if_neg h1]
  by_cases h2:i=o
  ·subst h2;rw [if_pos rfl,if_pos (by simp)];simp
  ·rw [if_neg h2,if_neg (by simp;omega)]
theorem setL_off (w:World) (b o i:Nat) (xs:List Value):setL w ⟨b,o,none⟩ i xs=setL w ⟨b,o+i,none⟩ 0 xs:=by
 induction xs generalizing w o i with
 | nil=>rfl
 | cons v r ih =>
  simp only [setL,add_mk,Nat.add_zero]
  rw [ih,ih (o:=o+i),Nat.add_assoc]
theorem Blk.setL {w:World} {b o:Nat} {f:Cells} {xs:List Value} (h:Blk w b f) (ho:∀i,i<xs.length→(f (o+i)).isSome):Blk (setL w ⟨b,o,none⟩ 0 xs) b (updL f o xs):=by
 induction xs generalizing w o f with
 | nil=>rw [updL_nil];exact h
 | cons v r ih =>
  simp only [Go.Sx.setL,add_mk,Nat.add_zero]
  rw [setL_off, ←updL_cons]
  have h1:=h.set (v:=v) (ho 0 (by simp))
  refine ih h1 ?_
  intro i hi
  have:=ho (i+1) (by simpa using hi)
  unfold updC
  split
  ·rfl
  ·rw [show o+1+i=o+(i+1) by omega];exact this
theorem Fm.setL {w w':World} {S:List Nat} {b o:Nat} {xs:List Value} (h:Fm w w' S) (hb:b∈S∨w.heap.size≤b):Fm w (setL w' ⟨b,o,none⟩ 0 xs) S:=by
 induction xs generalizing w' o with
 | nil=>exact h
 | cons v r ih =>
  simp only [Go.Sx.setL,add_mk,Nat.add_zero]
  rw [setL_off]
  exact ih (h.set hb)
structure Vec (sz:Nat) (w:World) (s:Sl) (l:List Value):Prop where
 len:l.length=s.l*sz
 cap:s.l≤s.c
 non:s.a=none→s.c=0
 blk:∀a,s.a=some a→a.off=0∧a.spot=none∧∃f,Blk w a.block f∧(∀i,i<l.length→f i=l[i]?)∧∀i,i<s.c*sz→(f i).isSome
def Sl.bs (s:Sl):List Nat:=match s.a with
 | some a => [a.block]
 | none => []
theorem Vec.nil {sz:Nat} {w:World} : Vec sz w ⟨none,0,0⟩ []:=⟨by simp,Nat.le_refl _,fun _=>rfl,by simp⟩
theorem Vec.fr {sz:Nat} {w w':World} {s:Sl} {l:List Value} {S:List Nat} (h:Vec sz w s l) (h':Fm w w' S) (hS:∀b∈s.bs,b∉S):Vec sz w' s l:=by
 refine ⟨h.len,h.cap,h.non,?_⟩
 intro a ha
 obtain ⟨h1,h2,f,h3,h4,h5⟩:=h.blk a ha
 exact ⟨h1,h2,f,h3.fr h' (hS _ (by unfold Sl.bs;rw [ha];simp)),h4,h5⟩
theorem Vec.lt {sz:Nat} {w:World} {s:Sl} {l:List Value} (h:Vec sz w s l):∀b∈s.bs,b<w.heap.size:=by
 intro b hb
 unfold Sl.bs at hb
 split at hb
 ·rename_i a ha
  obtain ⟨h1,h2,f,h3,h4,h5⟩:=h.blk a ha
  simp at hb;subst hb;exact h3.lt
 ·simp at hb
theorem zrep_size (zs:List Value) (n:Nat):(zrep zs n).size=n*zs.length:=by simp [zrep]
theorem zrep_some (zs:List Value) (n i:Nat) (h:i<n*zs.length):((zrep zs n)[i]?).isSome:=by
 rw [Array.getElem?_eq_getElem (by rw [zrep_size];exact h)];rfl
structure Has (sz:Nat) (w:World) (x:Sl) (xs:List Value):Prop where
 len:xs.length=x.l*sz
 get:∀b,x.a=some b→∀i,i<xs.length→w.cell? (b.add i)=xs[i]?
 non:x.a=none→xs = []
 one:∀v∈xs,one v=true
theorem app_v {zs:List Value} {T:TypeId} {bytes:Nat} {s x:Sl} {κ:Sl→PT} {w:World} {l xs:List Value} (h:Vec zs.length w s l) (hx:Has zs.length w x xs) (hz:0<zs.length) (hb:(s.l+x.l)*bytes≤2^46)
  (hk:∀s' w',Vec zs.length w' s' (l++xs)→Fm w w' s.bs→(∀b∈s'.bs,b∈s.bs∨w.heap.size≤b)→κ s' w'):app zs T bytes s x κ w:=by
 refine ⟨hb,?_,?_⟩
 ·intro hc
  refine ⟨xs,hx.len,hx.get,hx.non,hx.one,?_⟩
  cases ha:s.a with
  | some a =>
   obtain ⟨h1,h2,f,h3,h4,h5⟩:=h.blk a ha
   obtain ⟨ab,ao,asp⟩:=a
   simp only at h1 h2 h3
   subst h1 h2
   simp only [add_mk,Nat.zero_add]
   have hlt:(s.l+x.l)*zs.length≤s.c*zs.length:=Nat.mul_le_mul_right _ hc
   rw [Nat.add_mul] at hlt
   have hxl:=hx.len
   refine ⟨?_,?_⟩
   ·intro i hi
    exact canSt_b h3 (h5 _ (by omega))
   ·have h6:=h3.setL (o:=s.l*zs.length) (xs:=xs) (fun i hi=>h5 _ (by omega))
    refine hk _ _ ⟨?_,?_,?_,?_⟩ ?_ ?_
    ·simp only [List.length_append,h.len,hx.len,Nat.add_mul]
    ·exact hc
    ·intro h;cases h
    ·intro a ha'
     injection ha' with ha'
     subst ha'
     refine ⟨rfl,rfl,_,h6,?_,?_⟩
     ·intro i hi
      have hl:=h.len
      unfold updL
      by_cases hi2:s.l*zs.length≤i
      ·simp only [List.length_append] at hi
       rw [if_pos (by omega),List.getElem?_append_right (by omega),h.len]
      ·rw [if_neg (by omega),h4 i (by omega),List.getElem?_append_left (by omega)]
     ·intro i hi
      unfold updL
      split
      ·rename_i hh
       rw [List.getElem?_eq_getElem (by omega)];rfl
      ·exact h5 i hi
    ·exact (Fm.refl w _).setL (.inl (by unfold Sl.bs;rw [ha];simp))
    ·intro b hb'
     left
     unfold Sl.bs at hb' ⊢
     rw [ha]
     exact hb'
  | none =>
   have h0:=h.non ha
   have h01:=h.cap
   have hx0:x.l=0:=by omega
   have hs0:s.l=0:=by omega
   have hxs:xs = []:=List.length_eq_zero_iff.mp (by rw [hx.len,hx0,Nat.zero_mul])
   have hl:l = []:=List.length_eq_zero_iff.mp (by rw [h.len,hs0,Nat.zero_mul])
   subst hxs hl
   refine hk _ _ ⟨?_,?_,?_,?_⟩ (Fm.refl w _) ?_
   ·simp [hx0,hs0]
   ·exact hc
   ·intro _;exact h0
   ·intro a ha';cases ha'
   ·intro b hb';unfold Sl.bs at hb';simp at hb'
 ·intro hc
  refine ⟨l,xs,h.len,?_,?_,hx.len,hx.get,hx.non,?_⟩
  ·intro b hb' i hi
   obtain ⟨h1,h2,f,h3,h4,h5⟩:=h.blk b hb'
   obtain ⟨ab,ao,asp⟩:=b
   simp only at h1 h2 h3
   subst h1 h2
   rw [add_mk,Nat.zero_add,h3.cell,h4 i hi]
  ·intro ha
   have h0:=h.non ha
   have h01:=h.cap
   exact List.length_eq_zero_iff.mp (by rw [h.len,show s.l=0 by omega,Nat.zero_mul])
  ·intro c hc1 hc2
   have hl:=h.len
   have hxl:=hx.len
   refine hk _ _ ⟨?_,hc1,?_,?_⟩ ?_ ?_
   ·simp only [List.length_append,h.len,hx.len,Nat.add_mul]
   ·intro h;cases h
   ·intro a ha'
    injection ha' with ha'
    subst ha'
    refine ⟨rfl,rfl,_,Blk.new,?_,?_⟩
    ·intro i hi
     rw [Array.getElem?_append_left (by simp only [Array.size_append,List.size_toArray];simp only [List.length_append] at hi;omega)]
     rw [←Array.getElem?_toList];simp
    ·intro i hi
     simp only at hi
     rw [Array.getElem?_eq_getElem (by simp only [Array.size_append,List.size_toArray,zrep_size,Nat.sub_mul,Nat.add_mul];have:=Nat.mul_le_mul_right zs.length hc1;rw [Nat.add_mul] at this;omega)]
     rfl
   ·exact (Fm.refl w _).drew.alloc
   ·intro b hb'
    right
    unfold Sl.bs at hb'
    simp at hb'
    subst hb'
    exact Nat.le_refl _
theorem app_1 {z:Value} {T T':TypeId} {bytes:Nat} {s:Sl} {κ:Sl→PT} {w:World} {l:List Value} {v:Value} (h:Vec 1 w s l) (hv:one v=true) (hb:(s.l+1)*bytes≤2^46)
  (hk:∀s' w',Vec 1 w' s' (l ++ [v])→Fm w w' s.bs→(∀b∈s'.bs,b∈s.bs∨w.heap.size≤b)→κ s' w'):nw [v] T' (fun p=>app [z] T bytes s ⟨some p,1,1⟩ κ) w:=by
 have h0:Fm w (w.alloc (.cells ⟨[v]⟩ T')) []:=(Fm.refl w []).alloc
 refine app_v (zs := [z]) (xs := [v]) (h.fr h0 (by simp)) ⟨rfl,?_,(fun h=>by cases h),by simpa using hv⟩ (by simp) hb ?_
 ·intro b hb' i hi
  injection hb' with hb'
  subst hb'
  have hi:i=0:=by simpa using hi
  subst hi
  simp [add_mk]
 ·intro s' w' h1 h2 h3
  refine hk s' w' h1 ((h0.mono (S':=s.bs) (by simp)).trans h2 (fun b hb => .inl hb)) ?_
  intro b hb'
  rcases h3 b hb' with h4|h4
  ·exact .inl h4
  ·right;rw [World.size_alloc] at h4;omega
def leN:List Nat→Nat
 | []=>0
 | x::r=>x+256*leN r
def By (l:List Nat):Prop:=∀x∈l,x<256
theorem By.cons {x:Nat} {l:List Nat} (h:By (x::l)):x<256∧By l:=⟨h x (by simp),fun y hy=>h y (by simp [hy])⟩
theorem getD_out {l:List Nat} {i:Nat} (h:l.length≤i):l.getD i 0=0:=by rw [List.getD_eq_getElem?_getD,List.getElem?_eq_none h];rfl
theorem getD_in {l:List Nat} {i:Nat} (h:i<l.length):l.getD i 0=l[i]:=by rw [List.getD_eq_getElem?_getD,List.getElem?_eq_getElem h];rfl
theorem leN_lt:∀ {l:List Nat},By l→leN l<256^l.length
 | [],_=>by simp [leN]
 | x::r,h=>by
  have ⟨h1,h2⟩:=h.cons
  have:=leN_lt h2
  simp only [leN,List.length_cons,Nat.pow_succ]
  omega
theorem leN_get:∀ {l:List Nat} (i:Nat),By l→leN l/256^i%256=l.getD i 0
 | [],i,_=>by simp [leN]
 | x::r,0,h=>by
  have ⟨h1,h2⟩:=h.cons
  simp only [leN,Nat.pow_zero,Nat.div_one,List.getD_cons_zero]
  omega
 | x::r,i+1,h=>by
  have ⟨h1,h2⟩:=h.cons
  simp only [leN,List.getD_cons_succ]
  rw [←leN_get i h2,Nat.pow_succ,Nat.mul_comm (256^i) 256, ←Nat.div_div_eq_div_mul]
  rw [show (x+256*leN r)/256=leN r by omega]
theorem leN_bit {l:List Nat} (n:Nat) (h:By l):leN l/2^n%2=l.getD (n/8) 0/2^(n%8)%2:=by
 rw [←leN_get _ h]
 have e:n=8*(n/8)+n%8:=by omega
 have h8:n%8<8:=Nat.mod_lt _ (by omega)
 generalize n/8=q at *
 generalize n%8=r at *
 subst e
 rw [Nat.pow_add, ←Nat.div_div_eq_div_mul,show (2:Nat)^(8*q)=256^q by rw [Nat.pow_mul]]
 generalize leN l/256^q=y
 have:(256:Nat)=2^r*2^(8-r):=by rw [←Nat.pow_add,show r+(8-r)=8 by omega]
 rw [this,Nat.mod_mul_right_div_self]
 rw [show (2:Nat)^(8-r)=2*2^(7-r) by rw [←Nat.pow_succ',show (7-r).succ=8-r by omega]]
 rw [Nat.mod_mul_right_mod]
theorem leN_append (a b:List Nat):leN (a++b)=leN a+256^a.length*leN b:=by
 induction a with
 | nil=>simp [leN]
 | cons x r ih=>simp only [List.cons_append,leN,ih,List.length_cons,Nat.pow_succ];rw [Nat.mul_add,Nat.mul_comm (256^r.length) 256,Nat.mul_assoc];omega
theorem ofInt_nat (n m:Nat):BitVec.ofInt n (m:Int)=BitVec.ofNat n m:=BitVec.ofInt_natCast n m
theorem andI_nat {k:IntKind} (hk:k.signed=false) (a b:Nat) (ha:a<2^k.bits) (hb:b<2^k.bits):andI k a b=((a &&& b:Nat):Int):=by
 unfold andI
 rw [ofInt_nat,ofInt_nat,BitVec.toNat_and,BitVec.toNat_ofNat,BitVec.toNat_ofNat,Nat.mod_eq_of_lt ha,Nat.mod_eq_of_lt hb,wrap_u hk]
 rw [Nat.mod_eq_of_lt (Nat.lt_of_le_of_lt Nat.and_le_left ha)]
theorem orI_nat {k:IntKind} (hk:k.signed=false) (a b:Nat) (ha:a<2^k.bits) (hb:b<2^k.bits):orI k a b=((a ||| b:Nat):Int):=by
 unfold orI
 rw [ofInt_nat,ofInt_nat,BitVec.toNat_or,BitVec.toNat_ofNat,BitVec.toNat_ofNat,Nat.mod_eq_of_lt ha,Nat.mod_eq_of_lt hb,wrap_u hk]
 rw [Nat.mod_eq_of_lt (Nat.or_lt_two_pow ha hb)]
theorem andI_i64 (a b:Nat) (ha:a<2^63) (hb:b<2^63):andI .i64 a b=((a &&& b:Nat):Int):=by
 unfold andI
 rw [ofInt_nat,ofInt_nat,BitVec.toNat_and,BitVec.toNat_ofNat,BitVec.toNat_ofNat]
 simp only [IntKind.bits]
 rw [Nat.mod_eq_of_lt (by omega),Nat.mod_eq_of_lt (by omega)]
 exact wrap_nat .i64 _ (Nat.lt_of_le_of_lt Nat.and_le_left ha)
theorem shrI_nat (k:IntKind) (a b:Nat) (ha:a<2^k.bits):shrI k a b=((a/2^b:Nat):Int):=by
 unfold shrI
 rw [Int.toNat_natCast]
 have e:((2:Int)^(min b k.bits))=((2^(min b k.bits):Nat):Int):=by norm_cast
 rw [e,Int.fdiv_eq_ediv_of_nonneg _ (by exact Int.natCast_nonneg _), ←Int.natCast_ediv]
 by_cases hb:b≤k.bits
 ·rw [Nat.min_eq_left hb]
 ·rw [Nat.min_eq_right (by omega),Nat.div_eq_of_lt ha,Nat.div_eq_of_lt (Nat.lt_of_lt_of_le ha (Nat.pow_le_pow_right (by omega) (by omega)))]
theorem shlI_nat (k:IntKind) (a b:Nat) (hb:b≤k.bits) (h:a*2^b<2^(k.bits-1)):shlI k a b=((a*2^b:Nat):Int):=by
 unfold shlI
 rw [Int.toNat_natCast,Nat.min_eq_left hb]
 have e:((a:Int)*(2:Int)^b)=((a*2^b:Nat):Int):=by norm_cast
 rw [e,wrap_nat k _ h]
theorem shlI_u {k:IntKind} (hk:k.signed=false) (a b:Nat) (hb:b≤k.bits):shlI k a b=((a*2^b%2^k.bits:Nat):Int):=by
 unfold shlI
 rw [Int.toNat_natCast,Nat.min_eq_left hb]
 have e:((a:Int)*(2:Int)^b)=((a*2^b:Nat):Int):=by norm_cast
 rw [e,wrap_u hk]
theorem quoI_nat (k:IntKind) (a b:Nat) (h:a<2^(k.bits-1)):quoI k a b=((a/b:Nat):Int):=by
 unfold quoI
 rw [show Int.tdiv (a:Int) (b:Int)=((a/b:Nat):Int) from rfl]
 exact wrap_nat k _ (Nat.lt_of_le_of_lt (Nat.div_le_self _ _) h)
end Go.Sx
namespace Go.Sx
open Go Go.Proofs
set_option maxRecDepth 100000
def q13_J0 (K1:Bool→PT) (x7:Bool):PT :=
 K1 x7
def q13_J1 (K1:Bool→PT) (x10:Bool):PT :=
 K1 x10
def q13_J2 (K1:Bool→PT) (x15:Bool):PT :=
 K1 x15
def q13 (s0:Sl) (K1:Bool→PT):PT :=
 cnd (decide ((2147483647:Int)<(s0.l:Int))) (K1 true) (cnd (decide ((262143:Int)<(s0.l:Int))) (K1 true) (callP Tryd.prog 30 #[(.slice s0.a s0.l s0.c)] [.c .S] fun (r2:Sl)=>callP Tryd.prog 39 #[(.slice r2.a r2.l r2.c)] [.c .S,.c (.I .i64)] fun (r3:Sl×Int)=>callP Tryd.prog 41 #[(.slice r2.a r2.l r2.c),(.slice s0.a s0.l s0.c),(.bool false)] [.c .S,.c (.I .i64)] fun (r4:Sl×Int)=>cnd (!decide (r3.2=(0:Int))) (joinP (fun R5=>cnd (!decide (r3.2=(0:Int))) (R5 true) (callP Tryd.prog 25 #[(.int .i64 r4.2)] [.c .B] fun (r6:Bool)=>R5 r6)) (q13_J0 K1)) (cnd (!decide (r4.2=(0:Int))) (joinP (fun R8=>cnd (!decide (r3.2=(0:Int))) (R8 true) (callP Tryd.prog 25 #[(.int .i64 r4.2)] [.c .B] fun (r9:Bool)=>R8 r9)) (q13_J1 K1)) (callP Tryd.prog 15 #[(.slice r3.1.a r3.1.l r3.1.c)] [.c .S,.c (.I .i64),.c .B] fun (r11:Sl×Int×Bool)=>cnd (!r11.2.2) (K1 false) (callP Tryd.prog 28 #[(.slice r11.1.a r11.1.l r11.1.c),(.slice s0.a s0.l s0.c)] [.c (.I .i64)] fun (r12:Int)=>req ((8:Int)≠0)<|cnd (!decide ((r4.1.l:Int)=(IntKind.wrap .i64 ((quoI .i64 r12 (8:Int))+(1:Int))))) (K1 false) (callP Tryd.prog 24 #[(.slice s0.a s0.l s0.c),(.bool false),(.int .u8 (0:Int)),(.int .u8 (0:Int))] [.c .S,.c .S,.c .S,.c (.I .i64)] fun (r13:Sl×Sl×Sl×Int)=>joinP (fun R14=>cnd (!decide (r13.2.2.2=(0:Int))) (R14 true) (cnd (decide ((0:Int)<(r13.2.1.l:Int))) (R14 (decide ((r13.2.2.1.l:Int)≤(r4.1.l:Int)))) (R14 false))) (q13_J2 K1)))))))
def h13:Hint:=⟨(.n (.n .e 1018 ([(2,.c .B)],[]) .e) 1018 ([(2,.c .B)],[]) (.n .e 2047 ([(2,.c .B)],[]) .e)),.e⟩
theorem q13_eq (s0:Sl) (K1:Bool→PT):fnE Cx h13 [.c .B] Tryd.f13 [.v (.slice s0.a s0.l s0.c)] K1=q13 s0 K1:=by kernel_rfl
theorem q13_fnok:fnOk Tryd.f13 1=true:=by kernel_rfl
theorem q13_ok (s0:Sl) (K1:Bool→PT) {w:World} (h:q13 s0 K1 w):Calls Tryd.prog 13 #[(.slice s0.a s0.l s0.c)] w fun e w'=>∃r,e = .returned (resMk [.c .B] r)∧K1 r w' :=
 of_eq Tryd.func13 q13_fnok (by kernel_rfl) (by kernel_rfl) (q13_eq s0 K1) h
def q15_J0 (x4:(Int×Int×Int)) (A5:(Int×Int×Int)→PT) (x9:Int×Int):PT :=
 A5 (x9.1,x9.2,(IntKind.wrap .i64 (x4.2.2+(1:Int))))
def q15_L1 (K1:(Sl×Int×Bool)→PT) (r2:Sl×Int×Bool) (R3:Int×Int→PT) (x4:Int×Int×Int) (A5:(Int×Int×Int)→PT):PT :=
 cnd (decide (x4.2.2<(r2.1.l:Int))) (joinP (fun R6=>ixS 1 r2.1 x4.2.2 fun (p7:Addr)=>ld (.I .i64) p7 fun (n8:Int)=>cnd (decide ((12:Int)<n8)) (K1 (⟨none,0,0⟩,(0:Int),false)) (cnd (decide ((0:Int)<n8)) (req (0≤(IntKind.wrap .i64 (n8-(1:Int))))<|R6 (x4.1,(IntKind.wrap .i64 (x4.2.1+(shlI .i64 (1:Int) (IntKind.wrap .i64 (n8-(1:Int)))))))) (R6 (x4.1,x4.2.1)))) (q15_J0 x4 A5)) (R3 (x4.1,x4.2.1))
def q15_J2 (x18:(Int×Int)) (A19:(Int×Int)→PT) (x24:Int):PT :=
 A19 (x24,(IntKind.wrap .i64 (x18.2+(1:Int))))
def q15_L3 (r11:Int) (s15:Sl) (s16:Sl) (R17:Int→PT) (x18:Int×Int) (A19:(Int×Int)→PT):PT :=
 cnd (decide (x18.2<(s15.l:Int))) (joinP (fun R20=>ixS 1 s15 x18.2 fun (p21:Addr)=>ld (.I .i64) p21 fun (n22:Int)=>cnd (decide ((0:Int)<n22)) (ixS 1 s16 x18.2 fun (p23:Addr)=>st p23 (.int .i64 (IntKind.wrap .i64 ((IntKind.wrap .i64 ((IntKind.wrap .i64 (r11+(1:Int)))+(1:Int)))-n22)))<|R20 (IntKind.wrap .i64 (x18.1+(1:Int)))) (R20 x18.1)) (q15_J2 x18 A19)) (R17 x18.1)
def q15_J4 (K1:(Sl×Int×Bool)→PT) (x10:(Int×Int)) (s16:Sl) (x25:Int):PT :=
 K1 (s16,x10.1,(decide ((1:Int)<x25)))
def q15_J5 (K1:(Sl×Int×Bool)→PT) (r2:Sl×Int×Bool) (x10:Int×Int):PT :=
 cnd (decide (x10.2=(0:Int))) (K1 (⟨none,0,0⟩,(0:Int),false)) (callP Tryd.prog 44 #[(.int .i64 x10.2)] [.c (.I .i64)] fun (r11:Int)=>req (0≤(IntKind.wrap .i64 (r11+(1:Int))))<|cnd (decide ((11:Int)<(IntKind.wrap .i64 (r11+(1:Int))))) (K1 (⟨none,0,0⟩,(0:Int),false)) (callP Tryd.prog 44 #[(.int .i64 (IntKind.wrap .i64 ((shlI .i64 (1:Int) (IntKind.wrap .i64 (r11+(1:Int))))-x10.2)))] [.c (.I .i64)] fun (r12:Int)=>req (0≤r12)<|cnd (!decide ((IntKind.wrap .i64 ((shlI .i64 (1:Int) (IntKind.wrap .i64 (r11+(1:Int))))-x10.2))=(shlI .i64 (1:Int) r12))) (K1 (⟨none,0,0⟩,(0:Int),false)) (callP Tryd.prog 44 #[(.int .i64 (IntKind.wrap .i64 ((shlI .i64 (1:Int) (IntKind.wrap .i64 (r11+(1:Int))))-x10.2)))] [.c (.I .i64)] fun (r13:Int)=>nw [(.int .i64 (IntKind.wrap .i64 (r13+(1:Int))))] 3 fun (p14:Addr)=>app z3 3 8 r2.1 ⟨(some p14),1,1⟩ fun (s15:Sl)=>mks z3 3 8 (256:Int) (256:Int) fun (s16:Sl)=>joinP (fun R17=>loopP ((0:Int),(0:Int)) (q15_L3 r11 s15 s16 R17)) (q15_J4 K1 x10 s16))))
def q15 (s0:Sl) (K1:(Sl×Int×Bool)→PT):PT :=
 callP Tryd.prog 43 #[(.slice s0.a s0.l s0.c)] [.c .S,.c (.I .i64),.c .B] fun (r2:Sl×Int×Bool)=>cnd (!r2.2.2) (K1 (⟨none,0,0⟩,(0:Int),false)) (cnd (decide ((255:Int)<(r2.1.l:Int))) (K1 (⟨none,0,0⟩,(0:Int),false)) (joinP (fun R3=>loopP (r2.2.1,(0:Int),(0:Int)) (q15_L1 K1 r2 R3)) (q15_J5 K1 r2)))
def h15:Hint:=⟨(.n (.n (.n .e 31 ([(3,.c (.I .i64)),(6,.c (.I .i64))],[5]) .e) 250 ([(3,.c (.I .i64)),(6,.c (.I .i64)),(29,.c (.I .i64))],[27,5,28]) (.n .e 2003 ([(3,.c (.I .i64)),(6,.c (.I .i64))],[29,27,5,28]) .e)) 8191 ([(11,.c (.I .i64))],[2,3]) (.n (.n .e 65530 ([(11,.c (.I .i64)),(70,.c (.I .i64))],[9,2,68,3,69]) .e) 524243 ([(11,.c (.I .i64))],[70,9,2,68,3,69]) .e)),.e⟩
theorem q15_eq (s0:Sl) (K1:(Sl×Int×Bool)→PT):fnE Cx h15 [.c .S,.c (.I .i64),.c .B] Tryd.f15 [.v (.slice s0.a s0.l s0.c)] K1=q15 s0 K1:=by kernel_rfl
theorem q15_fnok:fnOk Tryd.f15 1=true:=by kernel_rfl
theorem q15_ok (s0:Sl) (K1:(Sl×Int×Bool)→PT) {w:World} (h:q15 s0 K1 w):Calls Tryd.prog 15 #[(.slice s0.a s0.l s0.c)] w fun e w'=>∃r,e = .returned (resMk [.c .S,.c (.I .i64),.c .B] r)∧K1 r w' :=
 of_eq Tryd.func15 q15_fnok (by kernel_rfl) (by kernel_rfl) (q15_eq s0 K1) h
def q24 (s0:Sl) (b1:Bool) (n2:Int) (n3:Int) (K4:(Sl×Sl×Sl×Int)→PT):PT :=
 nwA ⟨(List.set (List.set (List.set z94 263 (.int .u8 (2:Int))) 262 (.int .u8 n2)) 264 (.int .u8 n3))⟩ 94 fun (p5:Addr)=>callP Tryd.prog 50 #[(.slice s0.a s0.l s0.c),(.pointer (some p5)),(.bool b1)] [.c .S,.c .B,.c .V] fun (r6:Sl×Bool×Value)=>req (isIf r6.2.2=true)<|cnd (!(isNil r6.2.2)) (callP Tryd.prog 51 #[r6.2.2] [.c (.I .i64)] fun (r7:Int)=>K4 (⟨none,0,0⟩,⟨none,0,0⟩,⟨none,0,0⟩,r7)) (drw<|ld .S (Addr.add p5 257) fun (s8:Sl)=>ld .S (Addr.add p5 258) fun (s9:Sl)=>callP Tryd.prog 47 #[(.slice r6.1.a r6.1.l r6.1.c)] [.c .S] fun (r10:Sl)=>kp [((Addr.add p5 258),(.slice s9.a s9.l s9.c)),((Addr.add p5 257),(.slice s8.a s8.l s8.c))]<|callP Tryd.prog 47 #[(.slice s8.a s8.l s8.c)] [.c .S] fun (r11:Sl)=>kp [((Addr.add p5 258),(.slice s9.a s9.l s9.c))]<|callP Tryd.prog 47 #[(.slice s9.a s9.l s9.c)] [.c .S] fun (r12:Sl)=>K4 (r10,r11,r12,(0:Int)))
def h24:Hint:=⟨.e,.e⟩
theorem q24_eq (s0:Sl) (b1:Bool) (n2:Int) (n3:Int) (K4:(Sl×Sl×Sl×Int)→PT):fnE Cx h24 [.c .S,.c .S,.c .S,.c (.I .i64)] Tryd.f24 [.v (.slice s0.a s0.l s0.c),.v (.bool b1),.v (.int .u8 n2),.v (.int .u8 n3)] K4=q24 s0 b1 n2 n3 K4:=by kernel_rfl
theorem q24_fnok:fnOk Tryd.f24 4=true:=by kernel_rfl
theorem q24_ok (s0:Sl) (b1:Bool) (n2:Int) (n3:Int) (K4:(Sl×Sl×Sl×Int)→PT) {w:World} (h:q24 s0 b1 n2 n3 K4 w):Calls Tryd.prog 24 #[(.slice s0.a s0.l s0.c),(.bool b1),(.int .u8 n2),(.int .u8 n3)] w fun e w'=>∃r,e = .returned (resMk [.c .S,.c .S,.c .S,.c (.I .i64)] r)∧K4 r w' :=
 of_eq Tryd.func24 q24_fnok (by kernel_rfl) (by kernel_rfl) (q24_eq s0 b1 n2 n3 K4) h
def q25_J0 (K1:Bool→PT) (x3:Bool):PT :=
 K1 x3
def q25 (n0:Int) (K1:Bool→PT):PT :=
 joinP (fun R2=>cnd (decide ((0:Int)≤n0)) (R2 (decide (n0≤(4:Int)))) (R2 false)) (q25_J0 K1)
def h25:Hint:=⟨(.n .e 3 ([(2,.c .B)],[]) .e),.e⟩
theorem q25_eq (n0:Int) (K1:Bool→PT):fnE Cx h25 [.c .B] Tryd.f25 [.v (.int .i64 n0)] K1=q25 n0 K1:=by kernel_rfl
theorem q25_fnok:fnOk Tryd.f25 1=true:=by kernel_rfl
theorem q25_ok (n0:Int) (K1:Bool→PT) {w:World} (h:q25 n0 K1 w):Calls Tryd.prog 25 #[(.int .i64 n0)] w fun e w'=>∃r,e = .returned (resMk [.c .B] r)∧K1 r w' :=
 of_eq Tryd.func25 q25_fnok (by kernel_rfl) (by kernel_rfl) (q25_eq n0 K1) h
def q28_L0 (s0:Sl) (s1:Sl) (K2:Int→PT) (R3:Int→PT) (x4:Int×Int) (A5:(Int×Int)→PT):PT :=
 cnd (decide (x4.2<(s1.l:Int))) (ixS 1 s1 x4.2 fun (p6:Addr)=>ld (.I .u8) p6 fun (n7:Int)=>cnd (decide ((s0.l:Int)≤(IntKind.wrap .i64 n7))) (K2 (-1:Int)) (ixS 1 s0 n7 fun (p8:Addr)=>ld (.I .i64) p8 fun (n9:Int)=>cnd (decide (n9≤(0:Int))) (K2 (-1:Int)) (ixS 1 s0 n7 fun (p10:Addr)=>ld (.I .i64) p10 fun (n11:Int)=>A5 ((IntKind.wrap .i64 (x4.1+n11)),(IntKind.wrap .i64 (x4.2+(1:Int))))))) (R3 x4.1)
def q28_J1 (K2:Int→PT) (x12:Int):PT :=
 K2 x12
def q28 (s0:Sl) (s1:Sl) (K2:Int→PT):PT :=
 joinP (fun R3=>loopP ((0:Int),(0:Int)) (q28_L0 s0 s1 K2 R3)) (q28_J1 K2)
def h28:Hint:=⟨(.n (.n .e 7 ([(5,.c (.I .i64))],[]) .e) 58 ([(5,.c (.I .i64)),(10,.c (.I .i64))],[0,8,9]) .e),.e⟩
theorem q28_eq (s0:Sl) (s1:Sl) (K2:Int→PT):fnE Cx h28 [.c (.I .i64)] Tryd.f28 [.v (.slice s0.a s0.l s0.c),.v (.slice s1.a s1.l s1.c)] K2=q28 s0 s1 K2:=by kernel_rfl
theorem q28_fnok:fnOk Tryd.f28 2=true:=by kernel_rfl
theorem q28_ok (s0:Sl) (s1:Sl) (K2:Int→PT) {w:World} (h:q28 s0 s1 K2 w):Calls Tryd.prog 28 #[(.slice s0.a s0.l s0.c),(.slice s1.a s1.l s1.c)] w fun e w'=>∃r,e = .returned (resMk [.c (.I .i64)] r)∧K2 r w' :=
 of_eq Tryd.func28 q28_fnok (by kernel_rfl) (by kernel_rfl) (q28_eq s0 s1 K2) h
def q30_L0 (s0:Sl) (s2:Sl) (R3:Unit→PT) (x4:Int) (A5:Int→PT):PT :=
 cnd (decide (x4<(s0.l:Int))) (ixS 1 s0 x4 fun (p6:Addr)=>ld (.I .u8) p6 fun (n7:Int)=>ixS 1 s2 n7 fun (p8:Addr)=>ld (.I .u32) p8 fun (n9:Int)=>ixS 1 s2 n7 fun (p10:Addr)=>st p10 (.int .u32 (IntKind.wrap .u32 (n9+(1:Int))))<|A5 (IntKind.wrap .i64 (x4+(1:Int)))) (R3 ())
def q30_J1 (K1:Sl→PT) (s2:Sl) (x11:Unit):PT :=
 K1 s2
def q30 (s0:Sl) (K1:Sl→PT):PT :=
 mks z79 79 4 (256:Int) (256:Int) fun (s2:Sl)=>joinP (fun R3=>loopP (0:Int) (q30_L0 s0 s2 R3)) (q30_J1 K1 s2)
def h30:Hint:=⟨(.n (.n .e 7 ([],[3]) .e) 58 ([(9,.c (.I .i64))],[3,7,8]) .e),.e⟩
theorem q30_eq (s0:Sl) (K1:Sl→PT):fnE Cx h30 [.c .S] Tryd.f30 [.v (.slice s0.a s0.l s0.c)] K1=q30 s0 K1:=by kernel_rfl
theorem q30_fnok:fnOk Tryd.f30 1=true:=by kernel_rfl
theorem q30_ok (s0:Sl) (K1:Sl→PT) {w:World} (h:q30 s0 K1 w):Calls Tryd.prog 30 #[(.slice s0.a s0.l s0.c)] w fun e w'=>∃r,e = .returned (resMk [.c .S] r)∧K1 r w' :=
 of_eq Tryd.func30 q30_fnok (by kernel_rfl) (by kernel_rfl) (q30_eq s0 K1) h
def q39 (s0:Sl) (K1:(Sl×Int)→PT):PT :=
 callP Tryd.prog 56 #[(.slice s0.a s0.l s0.c)] [.c .P,.c .V] fun (r2:Option Addr×Value)=>req (isIf r2.2=true)<|cnd (!(isNil r2.2)) (callP Tryd.prog 51 #[r2.2] [.c (.I .i64)] fun (r3:Int)=>K1 (⟨none,0,0⟩,r3)) (callP Tryd.prog 46 #[(.pointer r2.1),(.slice none 0 0)] [.c .S,.c .V] fun (r4:Sl×Value)=>req (isIf r4.2=true)<|cnd (!(isNil r4.2)) (callP Tryd.prog 51 #[r4.2] [.c (.I .i64)] fun (r5:Int)=>K1 (⟨none,0,0⟩,r5)) (callP Tryd.prog 47 #[(.slice r4.1.a r4.1.l r4.1.c)] [.c .S] fun (r6:Sl)=>K1 (r6,(0:Int))))
def h39:Hint:=⟨.e,.e⟩
theorem q39_eq (s0:Sl) (K1:(Sl×Int)→PT):fnE Cx h39 [.c .S,.c (.I .i64)] Tryd.f39 [.v (.slice s0.a s0.l s0.c)] K1=q39 s0 K1:=by kernel_rfl
theorem q39_fnok:fnOk Tryd.f39 1=true:=by kernel_rfl
theorem q39_ok (s0:Sl) (K1:(Sl×Int)→PT) {w:World} (h:q39 s0 K1 w):Calls Tryd.prog 39 #[(.slice s0.a s0.l s0.c)] w fun e w'=>∃r,e = .returned (resMk [.c .S,.c (.I .i64)] r)∧K1 r w' :=
 of_eq Tryd.func39 q39_fnok (by kernel_rfl) (by kernel_rfl) (q39_eq s0 K1) h
def q41 (s0:Sl) (s1:Sl) (b2:Bool) (K3:(Sl×Int)→PT):PT :=
 callP Tryd.prog 56 #[(.slice s0.a s0.l s0.c)] [.c .P,.c .V] fun (r4:Option Addr×Value)=>req (isIf r4.2=true)<|cnd (!(isNil r4.2)) (callP Tryd.prog 51 #[r4.2] [.c (.I .i64)] fun (r5:Int)=>K3 (⟨none,0,0⟩,r5)) (nz r4.1 fun (p6:Addr)=>st (Addr.add p6 263) (.int .u8 (3:Int))<|callP Tryd.prog 50 #[(.slice s1.a s1.l s1.c),(.pointer r4.1),(.bool b2)] [.c .S,.c .B,.c .V] fun (r7:Sl×Bool×Value)=>req (isIf r7.2.2=true)<|cnd (!(isNil r7.2.2)) (callP Tryd.prog 51 #[r7.2.2] [.c (.I .i64)] fun (r8:Int)=>K3 (⟨none,0,0⟩,r8)) (callP Tryd.prog 47 #[(.slice r7.1.a r7.1.l r7.1.c)] [.c .S] fun (r9:Sl)=>K3 (r9,(0:Int))))
def h41:Hint:=⟨.e,.e⟩
theorem q41_eq (s0:Sl) (s1:Sl) (b2:Bool) (K3:(Sl×Int)→PT):fnE Cx h41 [.c .S,.c (.I .i64)] Tryd.f41 [.v (.slice s0.a s0.l s0.c),.v (.slice s1.a s1.l s1.c),.v (.bool b2)] K3=q41 s0 s1 b2 K3:=by kernel_rfl
theorem q41_fnok:fnOk Tryd.f41 3=true:=by kernel_rfl
theorem q41_ok (s0:Sl) (s1:Sl) (b2:Bool) (K3:(Sl×Int)→PT) {w:World} (h:q41 s0 s1 b2 K3 w):Calls Tryd.prog 41 #[(.slice s0.a s0.l s0.c),(.slice s1.a s1.l s1.c),(.bool b2)] w fun e w'=>∃r,e = .returned (resMk [.c .S,.c (.I .i64)] r)∧K3 r w' :=
 of_eq Tryd.func41 q41_fnok (by kernel_rfl) (by kernel_rfl) (q41_eq s0 s1 b2 K3) h
def q43_J0 (x6:(Sl×Int)) (A7:(Sl×Int)→PT) (x11:Int):PT :=
 req ((16:Int)≠0)<|nw [(.int .i64 (Int.tmod x11 (16:Int)))] 3 fun (p12:Addr)=>app z3 3 8 x6.1 ⟨(some p12),1,1⟩ fun (s13:Sl)=>A7 (s13,(IntKind.wrap .i64 (x6.2+(1:Int))))
def q43_L1 (s0:Sl) (n3:Int) (R5:Sl→PT) (x6:Sl×Int) (A7:(Sl×Int)→PT):PT :=
 cnd (decide (x6.2<(IntKind.wrap .i64 ((IntKind.wrap .i64 n3)-(127:Int))))) (req ((2:Int)≠0)<|ixS 1 s0 (IntKind.wrap .i64 ((1:Int)+(quoI .i64 x6.2 (2:Int)))) fun (p8:Addr)=>ld (.I .u8) p8 fun (n9:Int)=>joinP (fun R10=>req ((2:Int)≠0)<|cnd (decide ((Int.tmod x6.2 (2:Int))=(0:Int))) (req ((16:Int)≠0)<|R10 (quoI .i64 (IntKind.wrap .i64 n9) (16:Int))) (R10 (IntKind.wrap .i64 n9))) (q43_J0 x6 A7)) (R5 x6.1)
def q43_J2 (K1:(Sl×Int×Bool)→PT) (n3:Int) (x14:Sl):PT :=
 req ((2:Int)≠0)<|K1 (x14,(IntKind.wrap .i64 ((1:Int)+(quoI .i64 (IntKind.wrap .i64 ((IntKind.wrap .i64 ((IntKind.wrap .i64 n3)-(127:Int)))+(1:Int))) (2:Int)))),true)
def q43_L3 (r19:Sl×Bool) (R20:Sl→PT) (x21:Sl×Int) (A22:(Sl×Int)→PT):PT :=
 cnd (decide (x21.2<(r19.1.l:Int))) (ixS 1 r19.1 x21.2 fun (p23:Addr)=>ld (.I .u8) p23 fun (n24:Int)=>nw [(.int .i64 (IntKind.wrap .i64 n24))] 3 fun (p25:Addr)=>app z3 3 8 x21.1 ⟨(some p25),1,1⟩ fun (s26:Sl)=>A22 (s26,(IntKind.wrap .i64 (x21.2+(1:Int))))) (R20 x21.1)
def q43_J4 (K1:(Sl×Int×Bool)→PT) (x15:(Int)) (r19:Sl×Bool) (x27:Sl):PT :=
 K1 (x27,(IntKind.wrap .i64 ((1:Int)+x15)),r19.2)
def q43_J5 (s0:Sl) (K1:(Sl×Int×Bool)→PT) (x15:Int):PT :=
 cnd (decide ((s0.l:Int)<(IntKind.wrap .i64 ((1:Int)+x15)))) (K1 (⟨none,0,0⟩,(0:Int),false)) (slc 1 s0 (some (1:Int)) (some (IntKind.wrap .i64 ((1:Int)+x15))) none fun (s16:Sl)=>callP Tryd.prog 49 #[(.slice s16.a s16.l s16.c)] [.c .S,.c (.I .i64),.c .S,.c .B] fun (r17:Sl×Int×Sl×Bool)=>cnd (!r17.2.2.2) (K1 (⟨none,0,0⟩,(0:Int),false)) (cnd (decide ((6:Int)<r17.2.1)) (K1 (⟨none,0,0⟩,(0:Int),false)) (callP Tryd.prog 57 #[(.slice r17.1.a r17.1.l r17.1.c),(.int .i64 r17.2.1)] [.c .S,.c .B] fun (r18:Sl×Bool)=>cnd (!r18.2) (K1 (⟨none,0,0⟩,(0:Int),false)) (callP Tryd.prog 60 #[(.slice r17.2.2.1.a r17.2.2.1.l r17.2.2.1.c),(.slice r18.1.a r18.1.l r18.1.c),(.int .i64 r17.2.1),(.int .i64 (255:Int))] [.c .S,.c .B] fun (r19:Sl×Bool)=>joinP (fun R20=>loopP (⟨none,0,0⟩,(0:Int)) (q43_L3 r19 R20)) (q43_J4 K1 x15 r19)))))
def q43_X6 (s0:Sl) (K1:(Sl×Int×Bool)→PT) (n3:Int) (R4:Int→PT):PT :=
 cnd (decide ((128:Int)≤(IntKind.wrap .i64 n3))) (req ((2:Int)≠0)<|cnd (decide ((s0.l:Int)<(IntKind.wrap .i64 ((1:Int)+(quoI .i64 (IntKind.wrap .i64 ((IntKind.wrap .i64 ((IntKind.wrap .i64 n3)-(127:Int)))+(1:Int))) (2:Int)))))) (K1 (⟨none,0,0⟩,(0:Int),false)) (joinP (fun R5=>loopP (⟨none,0,0⟩,(0:Int)) (q43_L1 s0 n3 R5)) (q43_J2 K1 n3))) (R4 (IntKind.wrap .i64 n3))
def q43 (s0:Sl) (K1:(Sl×Int×Bool)→PT):PT :=
 cnd (decide ((s0.l:Int)=(0:Int))) (K1 (⟨none,0,0⟩,(0:Int),false)) (ixS 1 s0 (0:Int) fun (p2:Addr)=>ld (.I .u8) p2 fun (n3:Int)=>joinP (q43_X6 s0 K1 n3) (q43_J5 s0 K1))
def h43:Hint:=⟨(.n (.n (.n .e 15 ([(5,.c (.I .i64))],[0]) .e) 983 ([(6,.c .S)],[5]) (.n .e 4095 ([(15,.c .S)],[5,12]) .e)) 7866 ([(6,.c .S),(37,.c (.I .i64))],[0,5,36]) (.n (.n .e 32762 ([(15,.c .S),(101,.c (.I .i64))],[99,5,12,100]) .e) 1006899 ([(8,.c (.I .i64))],[6,37,0,5,36]) .e)),.e⟩
theorem q43_eq (s0:Sl) (K1:(Sl×Int×Bool)→PT):fnE Cx h43 [.c .S,.c (.I .i64),.c .B] Tryd.f43 [.v (.slice s0.a s0.l s0.c)] K1=q43 s0 K1:=by kernel_rfl
theorem q43_fnok:fnOk Tryd.f43 1=true:=by kernel_rfl
theorem q43_ok (s0:Sl) (K1:(Sl×Int×Bool)→PT) {w:World} (h:q43 s0 K1 w):Calls Tryd.prog 43 #[(.slice s0.a s0.l s0.c)] w fun e w'=>∃r,e = .returned (resMk [.c .S,.c (.I .i64),.c .B] r)∧K1 r w' :=
 of_eq Tryd.func43 q43_fnok (by kernel_rfl) (by kernel_rfl) (q43_eq s0 K1) h
def q44_L0 (R2:Int→PT) (x3:Int×Int) (A4:(Int×Int)→PT):PT :=
 cnd (decide ((1:Int)<x3.1)) (req ((2:Int)≠0)<|A4 ((quoI .i64 x3.1 (2:Int)),(IntKind.wrap .i64 (x3.2+(1:Int))))) (R2 x3.2)
def q44_J1 (K1:Int→PT) (x5:Int):PT :=
 K1 x5
def q44 (n0:Int) (K1:Int→PT):PT :=
 joinP (fun R2=>loopP (n0,(0:Int)) (q44_L0 R2)) (q44_J1 K1)
def h44:Hint:=⟨(.n (.n .e 7 ([(3,.c (.I .i64))],[]) .e) 28 ([(0,.c (.I .i64)),(3,.c (.I .i64))],[]) .e),.e⟩
theorem q44_eq (n0:Int) (K1:Int→PT):fnE Cx h44 [.c (.I .i64)] Tryd.f44 [.v (.int .i64 n0)] K1=q44 n0 K1:=by kernel_rfl
theorem q44_fnok:fnOk Tryd.f44 1=true:=by kernel_rfl
theorem q44_ok (n0:Int) (K1:Int→PT) {w:World} (h:q44 n0 K1 w):Calls Tryd.prog 44 #[(.int .i64 n0)] w fun e w'=>∃r,e = .returned (resMk [.c (.I .i64)] r)∧K1 r w' :=
 of_eq Tryd.func44 q44_fnok (by kernel_rfl) (by kernel_rfl) (q44_eq n0 K1) h
def q46_J0 (p0:Addr) (s1:Sl) (K2:(Sl×Value)→PT) (n7:Int) (n8:Int) (x13:Sl):PT :=
 ld .S (Addr.add p0 256) fun (s14:Sl)=>slc 1 s14 none (some (0:Int)) none fun (s15:Sl)=>st (Addr.add p0 256) (.slice s15.a s15.l s15.c)<|ld (.I .u8) (Addr.add p0 269) fun (n16:Int)=>st (Addr.add p0 268) (.int .u8 n16)<|ld .S (Addr.add p0 270) fun (s17:Sl)=>st (Addr.add p0 265) (.int .u16 (IntKind.wrap .u16 (s17.l:Int)))<|ld .S (Addr.add p0 270) fun (s18:Sl)=>callP Tryd.prog 65 #[(.slice s18.a s18.l s18.c),(.pointer (some p0))] [.c .V] fun (r19:Value)=>req (isIf r19=true)<|cnd (!(isNil r19)) (st (Addr.add p0 256) (.slice x13.a x13.l x13.c)<|st (Addr.add p0 268) (.int .u8 n7)<|st (Addr.add p0 265) (.int .u16 n8)<|K2 (s1,r19)) (ld .S (Addr.add p0 256) fun (s20:Sl)=>app z5 5 1 s1 s20 fun (s21:Sl)=>st (Addr.add p0 256) (.slice x13.a x13.l x13.c)<|st (Addr.add p0 268) (.int .u8 n7)<|st (Addr.add p0 265) (.int .u16 n8)<|K2 (s21,.nilIface))
def q46 (p0:Addr) (s1:Sl) (K2:(Sl×Value)→PT):PT :=
 cnd (Option.isNone (some p0)) (callP Tryd.prog 62 #[(.string ⟨#[104,117,102,102,48,58,32,65,112,112,101,110,100,84,97,98,108,101,32,119,105,116,104,32,101,109,112,116,121,32,116,97,98,108,101]⟩)] [.c .V] fun (r3:Value)=>K2 (s1,r3)) (ld .S (Addr.add p0 270) fun (s4:Sl)=>cnd (decide ((s4.l:Int)=(0:Int))) (callP Tryd.prog 62 #[(.string ⟨#[104,117,102,102,48,58,32,65,112,112,101,110,100,84,97,98,108,101,32,119,105,116,104,32,101,109,112,116,121,32,116,97,98,108,101]⟩)] [.c .V] fun (r5:Value)=>K2 (s1,r5)) (ld .S (Addr.add p0 256) fun (s6:Sl)=>ld (.I .u8) (Addr.add p0 268) fun (n7:Int)=>ld (.I .u16) (Addr.add p0 265) fun (n8:Int)=>joinP (fun R9=>ld .P (Addr.add p0 278) fun (o10:Option Addr)=>cnd (Option.isNone o10) (callP Tryd.prog 61 #[(.pointer (some p0)),(.slice none 0 0)] [.c .P,.c .V] fun (r11:Option Addr×Value)=>req (isIf r11.2=true)<|cnd (!(isNil r11.2)) (K2 (s1,r11.2)) (ld .S (Addr.add p0 256) fun (s12:Sl)=>R9 s12)) (R9 s6)) (q46_J0 p0 s1 K2 n7 n8)))
def h46:Hint:=⟨(.n .e 63 ([(6,.c .S)],[0,7,8,1]) .e),.e⟩
theorem q46_eq (p0:Addr) (s1:Sl) (K2:(Sl×Value)→PT):fnE Cx h46 [.c .S,.c .V] Tryd.f46 [.pt p0,.v (.slice s1.a s1.l s1.c)] K2=q46 p0 s1 K2:=by kernel_rfl
theorem q46_fnok:fnOk Tryd.f46 2=true:=by kernel_rfl
theorem q46_ok (p0:Addr) (s1:Sl) (K2:(Sl×Value)→PT) {w:World} (h:q46 p0 s1 K2 w):Calls Tryd.prog 46 #[(.pointer (some p0)),(.slice s1.a s1.l s1.c)] w fun e w'=>∃r,e = .returned (resMk [.c .S,.c .V] r)∧K2 r w' :=
 of_eq Tryd.func46 q46_fnok (by kernel_rfl) (by kernel_rfl) (q46_eq p0 s1 K2) h
def q47 (s0:Sl) (K1:Sl→PT):PT :=
 nw [] 5 fun (p2:Addr)=>app z5 5 1 ⟨(some p2),0,0⟩ s0 fun (s3:Sl)=>K1 s3
def h47:Hint:=⟨.e,.e⟩
theorem q47_eq (s0:Sl) (K1:Sl→PT):fnE Cx h47 [.c .S] Tryd.f47 [.v (.slice s0.a s0.l s0.c)] K1=q47 s0 K1:=by kernel_rfl
theorem q47_fnok:fnOk Tryd.f47 1=true:=by kernel_rfl
theorem q47_ok (s0:Sl) (K1:Sl→PT) {w:World} (h:q47 s0 K1 w):Calls Tryd.prog 47 #[(.slice s0.a s0.l s0.c)] w fun e w'=>∃r,e = .returned (resMk [.c .S] r)∧K1 r w' :=
 of_eq Tryd.func47 q47_fnok (by kernel_rfl) (by kernel_rfl) (q47_eq s0 K1) h
def q49_J0 (p2:Addr) (x5:(Int×Int)) (A6:(Int×Int)→PT) (r9:Int) (x14:Int):PT :=
 cnd (decide ((IntKind.wrap .i64 (r9-(1:Int)))=(0:Int))) (callP Tryd.prog 69 #[(.pointer (some p2))] [] fun (r15:Unit)=>A6 (x5.1,(IntKind.wrap .i64 (x14-(maxI (IntKind.wrap .i64 (r9-(1:Int))) (0:Int)))))) (A6 (x5.1,(IntKind.wrap .i64 (x14-(maxI (IntKind.wrap .i64 (r9-(1:Int))) (0:Int))))))
def q49_L1 (K1:(Sl×Int×Sl×Bool)→PT) (p2:Addr) (R4:Int×Int→PT) (x5:Int×Int) (A6:(Int×Int)→PT):PT :=
 cnd (decide ((0:Int)<x5.2)) (ld .B (Addr.add p2 2) fun (b7:Bool)=>cnd b7 (ld .S (Addr.add p2 3) fun (s8:Sl)=>cnd (decide ((255:Int)<(s8.l:Int))) (K1 (⟨none,0,0⟩,(0:Int),⟨none,0,0⟩,false)) (callP Tryd.prog 68 #[(.pointer (some p2)),(.int .i64 (IntKind.wrap .i64 (x5.2+(1:Int))))] [.c (.I .i64)] fun (r9:Int)=>ld .S (Addr.add p2 3) fun (s10:Sl)=>nw [(.int .i64 (IntKind.wrap .i64 (r9-(1:Int))))] 3 fun (p11:Addr)=>app z3 3 8 s10 ⟨(some p11),1,1⟩ fun (s12:Sl)=>st (Addr.add p2 3) (.slice s12.a s12.l s12.c)<|joinP (fun R13=>cnd (decide ((IntKind.wrap .i64 (r9-(1:Int)))<(0:Int))) (R13 (IntKind.wrap .i64 (x5.2-(1:Int)))) (R13 x5.2)) (q49_J0 p2 x5 A6 r9))) (R4 (x5.1,x5.2))) (R4 (x5.1,x5.2))
def q49_J2 (s0:Sl) (K1:(Sl×Int×Sl×Bool)→PT) (p2:Addr) (x16:Int×Int):PT :=
 ld .B (Addr.add p2 2) fun (b17:Bool)=>cnd (!b17) (K1 (⟨none,0,0⟩,(0:Int),⟨none,0,0⟩,false)) (cnd (!decide (x16.2=(0:Int))) (K1 (⟨none,0,0⟩,(0:Int),⟨none,0,0⟩,false)) (ld .S (Addr.add p2 3) fun (s18:Sl)=>cnd (decide ((256:Int)<(s18.l:Int))) (K1 (⟨none,0,0⟩,(0:Int),⟨none,0,0⟩,false)) (drw<|ld .S (Addr.add p2 3) fun (s19:Sl)=>ld (.I .i64) (Addr.add p2 1) fun (n20:Int)=>req ((8:Int)≠0)<|slc 1 s0 (some (quoI .i64 (IntKind.wrap .i64 (n20+(7:Int))) (8:Int))) none none fun (s21:Sl)=>nw [] 5 fun (p22:Addr)=>kp [((Addr.add p2 1),(.int .i64 n20)),((Addr.add p2 3),(.slice s19.a s19.l s19.c))]<|app z5 5 1 ⟨(some p22),0,0⟩ s21 fun (s23:Sl)=>kp [((Addr.add p2 3),(.slice s19.a s19.l s19.c))]<|K1 (s19,x16.1,s23,true))))
def q49 (s0:Sl) (K1:(Sl×Int×Sl×Bool)→PT):PT :=
 nw [(.slice s0.a s0.l s0.c),(.int .i64 (0:Int)),(.bool true),(.slice none 0 0)] 148 fun (p2:Addr)=>callP Tryd.prog 67 #[(.pointer (some p2)),(.int .i64 (4:Int))] [.c (.I .i64)] fun (r3:Int)=>req (0≤(IntKind.wrap .i64 (r3+(5:Int))))<|cnd (decide ((15:Int)<(IntKind.wrap .i64 (r3+(5:Int))))) (K1 (⟨none,0,0⟩,(0:Int),⟨none,0,0⟩,false)) (joinP (fun R4=>loopP ((IntKind.wrap .i64 (r3+(5:Int))),(shlI .i64 (1:Int) (IntKind.wrap .i64 (r3+(5:Int))))) (q49_L1 K1 p2 R4)) (q49_J2 s0 K1 p2))
def h49:Hint:=⟨(.n (.n .e 63 ([(3,.c (.I .i64)),(7,.c (.I .i64))],[6,0]) .e) 252 ([(3,.c (.I .i64)),(7,.c (.I .i64))],[6,0]) (.n .e 16151 ([(7,.c (.I .i64))],[8,6,0,3]) .e)),.e⟩
theorem q49_eq (s0:Sl) (K1:(Sl×Int×Sl×Bool)→PT):fnE Cx h49 [.c .S,.c (.I .i64),.c .S,.c .B] Tryd.f49 [.v (.slice s0.a s0.l s0.c)] K1=q49 s0 K1:=by kernel_rfl
theorem q49_fnok:fnOk Tryd.f49 1=true:=by kernel_rfl
theorem q49_ok (s0:Sl) (K1:(Sl×Int×Sl×Bool)→PT) {w:World} (h:q49 s0 K1 w):Calls Tryd.prog 49 #[(.slice s0.a s0.l s0.c)] w fun e w'=>∃r,e = .returned (resMk [.c .S,.c (.I .i64),.c .S,.c .B] r)∧K1 r w' :=
 of_eq Tryd.func49 q49_fnok (by kernel_rfl) (by kernel_rfl) (q49_eq s0 K1) h
def q50 (s0:Sl) (o1:Option Addr) (b2:Bool) (K3:(Sl×Bool×Value)→PT):PT :=
 cnd b2 (callP Tryd.prog 70 #[(.slice s0.a s0.l s0.c),(.pointer o1)] [.c .S,.c .B,.c .V] fun (r4:Sl×Bool×Value)=>K3 (r4.1,r4.2.1,r4.2.2)) (callP Tryd.prog 71 #[(.slice s0.a s0.l s0.c),(.pointer o1)] [.c .S,.c .B,.c .V] fun (r5:Sl×Bool×Value)=>K3 (r5.1,r5.2.1,r5.2.2))
def h50:Hint:=⟨.e,.e⟩
theorem q50_eq (s0:Sl) (o1:Option Addr) (b2:Bool) (K3:(Sl×Bool×Value)→PT):fnE Cx h50 [.c .S,.c .B,.c .V] Tryd.f50 [.v (.slice s0.a s0.l s0.c),.v (.pointer o1),.v (.bool b2)] K3=q50 s0 o1 b2 K3:=by kernel_rfl
theorem q50_fnok:fnOk Tryd.f50 3=true:=by kernel_rfl
theorem q50_ok (s0:Sl) (o1:Option Addr) (b2:Bool) (K3:(Sl×Bool×Value)→PT) {w:World} (h:q50 s0 o1 b2 K3 w):Calls Tryd.prog 50 #[(.slice s0.a s0.l s0.c),(.pointer o1),(.bool b2)] w fun e w'=>∃r,e = .returned (resMk [.c .S,.c .B,.c .V] r)∧K3 r w' :=
 of_eq Tryd.func50 q50_fnok (by kernel_rfl) (by kernel_rfl) (q50_eq s0 o1 b2 K3) h
def q51 (v0:Value) (K1:Int→PT):PT :=
 req (isIf v0=true)<|cnd (isNil v0) (K1 (0:Int)) (ld .V ⟨0,0,none⟩ fun (v2:Value)=>eqE Cx 68 v0 v2 fun (b3:Bool)=>cnd b3 (K1 (1:Int)) (ld .V ⟨1,0,none⟩ fun (v4:Value)=>eqE Cx 68 v0 v4 fun (b5:Bool)=>cnd b5 (K1 (2:Int)) (ld .V ⟨2,0,none⟩ fun (v6:Value)=>eqE Cx 68 v0 v6 fun (b7:Bool)=>cnd b7 (K1 (3:Int)) (K1 (4:Int)))))
def h51:Hint:=⟨.e,.e⟩
theorem q51_eq (v0:Value) (K1:Int→PT):fnE Cx h51 [.c (.I .i64)] Tryd.f51 [.v v0] K1=q51 v0 K1:=by kernel_rfl
theorem q51_fnok:fnOk Tryd.f51 1=true:=by kernel_rfl
theorem q51_ok (v0:Value) (K1:Int→PT) {w:World} (h:q51 v0 K1 w):Calls Tryd.prog 51 #[v0] w fun e w'=>∃r,e = .returned (resMk [.c (.I .i64)] r)∧K1 r w' :=
 of_eq Tryd.func51 q51_fnok (by kernel_rfl) (by kernel_rfl) (q51_eq v0 K1) h
def q56 (s0:Sl) (K1:(Option Addr×Value)→PT):PT :=
 nw z80 80 fun (p2:Addr)=>slcA 1 256 p2 none none none fun (s3:Sl)=>cpy 1 s3 s0 fun (n4:Int)=>nwA ⟨z94⟩ 94 fun (p5:Addr)=>callP Tryd.prog 74 #[(.pointer (some p5)),(.pointer (some p2))] [.c .V] fun (r6:Value)=>K1 ((some p5),r6)
def h56:Hint:=⟨.e,.e⟩
theorem q56_eq (s0:Sl) (K1:(Option Addr×Value)→PT):fnE Cx h56 [.c .P,.c .V] Tryd.f56 [.v (.slice s0.a s0.l s0.c)] K1=q56 s0 K1:=by kernel_rfl
theorem q56_fnok:fnOk Tryd.f56 1=true:=by kernel_rfl
theorem q56_ok (s0:Sl) (K1:(Option Addr×Value)→PT) {w:World} (h:q56 s0 K1 w):Calls Tryd.prog 56 #[(.slice s0.a s0.l s0.c)] w fun e w'=>∃r,e = .returned (resMk [.c .P,.c .V] r)∧K1 r w' :=
 of_eq Tryd.func56 q56_fnok (by kernel_rfl) (by kernel_rfl) (q56_eq s0 K1) h
def q57_J0 (x4:(Int×Int)) (A5:(Int×Int)→PT) (x9:Int):PT :=
 A5 ((IntKind.wrap .i64 (x4.1+x9)),(IntKind.wrap .i64 (x4.2+(1:Int))))
def q57_L1 (s0:Sl) (R3:Int→PT) (x4:Int×Int) (A5:(Int×Int)→PT):PT :=
 cnd (decide (x4.2<(s0.l:Int))) (ixS 1 s0 x4.2 fun (p6:Addr)=>ld (.I .i64) p6 fun (n7:Int)=>joinP (fun R8=>cnd (decide (n7<(0:Int))) (R8 (1:Int)) (R8 n7)) (q57_J0 x4 A5)) (R3 x4.1)
def q57_J2 (n1:Int) (s12:Sl) (s13:Sl) (x15:(Int)) (A16:Int→PT) (n18:Int) (x22:Int):PT :=
 ixS 1 s12 n18 fun (p23:Addr)=>ld (.I .i64) p23 fun (n24:Int)=>ixS 1 s12 n18 fun (p25:Addr)=>ld (.I .i64) p25 fun (n26:Int)=>ixS 1 s12 n18 fun (p27:Addr)=>st p27 (.int .i64 (IntKind.wrap .i64 (n26+(1:Int))))<|callP Tryd.prog 44 #[(.int .i64 (IntKind.wrap .i64 (x22+n24)))] [.c (.I .i64)] fun (r28:Int)=>req (0≤(IntKind.wrap .i64 (n1-r28)))<|ixS 3 s13 x15 fun (p29:Addr)=>stL p29 0 [(.int .i64 n18),(.int .i64 (IntKind.wrap .i64 (n1-r28))),(.int .i64 (IntKind.wrap .i64 ((shlI .i64 (IntKind.wrap .i64 (x22+n24)) (IntKind.wrap .i64 (n1-r28)))-(shlI .i64 (1:Int) n1))))]<|A16 (IntKind.wrap .i64 (x15+(1:Int)))
def q57_L3 (s0:Sl) (n1:Int) (K2:(Sl×Bool)→PT) (r11:Sl) (s12:Sl) (s13:Sl) (R14:Unit→PT) (x15:Int) (A16:Int→PT):PT :=
 cnd (decide (x15<(r11.l:Int))) (ixS 1 r11 x15 fun (p17:Addr)=>ld (.I .i64) p17 fun (n18:Int)=>cnd (decide (n18<(0:Int))) (K2 (⟨none,0,0⟩,false)) (ixS 1 s0 n18 fun (p19:Addr)=>ld (.I .i64) p19 fun (n20:Int)=>joinP (fun R21=>cnd (decide (n20<(0:Int))) (R21 (1:Int)) (R21 n20)) (q57_J2 n1 s12 s13 x15 A16 n18))) (R14 ())
def q57_J4 (K2:(Sl×Bool)→PT) (s13:Sl) (x30:Unit):PT :=
 K2 (s13,true)
def q57_J5 (s0:Sl) (n1:Int) (K2:(Sl×Bool)→PT) (x10:Int):PT :=
 cnd (!decide (x10=(shlI .i64 (1:Int) n1))) (K2 (⟨none,0,0⟩,false)) (callP Tryd.prog 75 #[(.slice s0.a s0.l s0.c),(.int .i64 n1)] [.c .S] fun (r11:Sl)=>cnd (Option.isNone r11.a) (K2 (⟨none,0,0⟩,false)) (mks z3 3 8 (s0.l:Int) (s0.l:Int) fun (s12:Sl)=>mks z113 113 24 (shlI .i64 (1:Int) n1) (shlI .i64 (1:Int) n1) fun (s13:Sl)=>joinP (fun R14=>loopP (0:Int) (q57_L3 s0 n1 K2 r11 s12 s13 R14)) (q57_J4 K2 s13)))
def q57 (s0:Sl) (n1:Int) (K2:(Sl×Bool)→PT):PT :=
 req (0≤n1)<|joinP (fun R3=>loopP ((0:Int),(0:Int)) (q57_L1 s0 R3)) (q57_J5 s0 n1 K2)
def h57:Hint:=⟨(.n (.n (.n .e 15 ([(7,.c (.I .i64))],[0,1,6]) .e) 122 ([(7,.c (.I .i64)),(22,.c (.I .i64))],[20,0,1,6,21]) (.n .e 1023 ([],[12]) .e)) 7833 ([(9,.c (.I .i64))],[7,22,20,0,1,6,21]) (.n (.n .e 8186 ([(47,.c (.I .i64))],[0,11,1,12,6,45,46]) .e) 2095719 ([(15,.c (.I .i64))],[13,14,47,0,11,1,12,6,45,46]) .e)),.e⟩
theorem q57_eq (s0:Sl) (n1:Int) (K2:(Sl×Bool)→PT):fnE Cx h57 [.c .S,.c .B] Tryd.f57 [.v (.slice s0.a s0.l s0.c),.v (.int .i64 n1)] K2=q57 s0 n1 K2:=by kernel_rfl
theorem q57_fnok:fnOk Tryd.f57 2=true:=by kernel_rfl
theorem q57_ok (s0:Sl) (n1:Int) (K2:(Sl×Bool)→PT) {w:World} (h:q57 s0 n1 K2 w):Calls Tryd.prog 57 #[(.slice s0.a s0.l s0.c),(.int .i64 n1)] w fun e w'=>∃r,e = .returned (resMk [.c .S,.c .B] r)∧K2 r w' :=
 of_eq Tryd.func57 q57_fnok (by kernel_rfl) (by kernel_rfl) (q57_eq s0 n1 K2) h
def q58 (s0:Sl) (n1:Int) (K2:(Option Addr×(Int×Int)×Bool)→PT):PT :=
 nw z109 109 fun (p3:Addr)=>callP Tryd.prog 72 #[(.slice s0.a s0.l s0.c)] [.c .P,.c .B] fun (r4:Option Addr×Bool)=>cnd (!r4.2) (stL p3 0 [(.int .i64 (0:Int)),(.int .i64 (0:Int))]<|ldL [(.I .i64),(.I .i64)] p3 0 fun (r5:(Int×Int))=>K2 ((none:Option Addr),(r5.1,r5.2),false)) (callP Tryd.prog 59 #[(.pointer r4.1),(.int .i64 n1)] [.c (.I .i64)] fun (r6:Int)=>callP Tryd.prog 59 #[(.pointer r4.1),(.int .i64 n1)] [.c (.I .i64)] fun (r7:Int)=>drw<|nz r4.1 fun (p8:Addr)=>ld (.I .i64) (Addr.add p8 1) fun (n9:Int)=>stL p3 0 [(.int .i64 r6),(.int .i64 r7)]<|kp [((Addr.add p8 1),(.int .i64 n9))]<|ldL [(.I .i64),(.I .i64)] p3 0 fun (r10:(Int×Int))=>K2 (r4.1,(r10.1,r10.2),(decide ((0:Int)≤n9))))
def h58:Hint:=⟨.e,.e⟩
theorem q58_eq (s0:Sl) (n1:Int) (K2:(Option Addr×(Int×Int)×Bool)→PT):fnE Cx h58 [.c .P,.m [(.I .i64),(.I .i64)],.c .B] Tryd.f58 [.v (.slice s0.a s0.l s0.c),.v (.int .i64 n1)] K2=q58 s0 n1 K2:=by kernel_rfl
theorem q58_fnok:fnOk Tryd.f58 2=true:=by kernel_rfl
theorem q58_ok (s0:Sl) (n1:Int) (K2:(Option Addr×(Int×Int)×Bool)→PT) {w:World} (h:q58 s0 n1 K2 w):Calls Tryd.prog 58 #[(.slice s0.a s0.l s0.c),(.int .i64 n1)] w fun e w'=>∃r,e = .returned (resMk [.c .P,.m [(.I .i64),(.I .i64)],.c .B] r)∧K2 r w' :=
 of_eq Tryd.func58 q58_fnok (by kernel_rfl) (by kernel_rfl) (q58_eq s0 n1 K2) h
def q59_L0 (p0:Addr) (n1:Int) (R3:Int→PT) (x4:Int×Int) (A5:(Int×Int)→PT):PT :=
 cnd (decide (x4.2<n1)) (ld (.I .i64) (Addr.add p0 1) fun (n6:Int)=>st (Addr.add p0 1) (.int .i64 (IntKind.wrap .i64 (n6-(1:Int))))<|drw<|ld .S p0 fun (s7:Sl)=>ld (.I .i64) (Addr.add p0 1) fun (n8:Int)=>callP Tryd.prog 76 #[(.slice s7.a s7.l s7.c),(.int .i64 n8)] [.c (.I .i64),.c .B] fun (r9:Int×Bool)=>A5 ((IntKind.wrap .i64 ((IntKind.wrap .i64 ((2:Int)*x4.1))+r9.1)),(IntKind.wrap .i64 (x4.2+(1:Int))))) (R3 x4.1)
def q59_J1 (K2:Int→PT) (x10:Int):PT :=
 K2 x10
def q59 (p0:Addr) (n1:Int) (K2:Int→PT):PT :=
 joinP (fun R3=>loopP ((0:Int),(0:Int)) (q59_L0 p0 n1 R3)) (q59_J1 K2)
def h59:Hint:=⟨(.n (.n .e 7 ([(5,.c (.I .i64))],[]) .e) 58 ([(5,.c (.I .i64)),(9,.c (.I .i64))],[0,8]) .e),.e⟩
theorem q59_eq (p0:Addr) (n1:Int) (K2:Int→PT):fnE Cx h59 [.c (.I .i64)] Tryd.f59 [.pt p0,.v (.int .i64 n1)] K2=q59 p0 n1 K2:=by kernel_rfl
theorem q59_fnok:fnOk Tryd.f59 2=true:=by kernel_rfl
theorem q59_ok (p0:Addr) (n1:Int) (K2:Int→PT) {w:World} (h:q59 p0 n1 K2 w):Calls Tryd.prog 59 #[(.pointer (some p0)),(.int .i64 n1)] w fun e w'=>∃r,e = .returned (resMk [.c (.I .i64)] r)∧K2 r w' :=
 of_eq Tryd.func59 q59_fnok (by kernel_rfl) (by kernel_rfl) (q59_eq p0 n1 K2) h
def q60_L0 (s1:Sl) (n3:Int) (K4:(Sl×Bool)→PT) (r5:Option Addr×(Int×Int)×Bool) (p6:Addr) (x7:Sl×Int) (A8:(Sl×Int)→PT):PT :=
 ixA 1 2 p6 x7.2 fun (p9:Addr)=>ld (.I .i64) p9 fun (n10:Int)=>ixS 3 s1 n10 fun (p11:Addr)=>ldL [(.I .i64),(.I .i64),(.I .i64)] p11 0 fun (r12:(Int×Int×Int))=>nw z113 113 fun (p13:Addr)=>stL p13 0 [(.int .i64 r12.1),(.int .i64 r12.2.1),(.int .i64 r12.2.2)]<|ld (.I .i64) p13 fun (n14:Int)=>nw [(.int .u8 (IntKind.wrap .u8 n14))] 5 fun (p15:Addr)=>app z5 5 1 x7.1 ⟨(some p15),1,1⟩ fun (s16:Sl)=>cnd (decide (n3<(s16.l:Int))) (K4 (⟨none,0,0⟩,false)) (ld (.I .i64) (Addr.add p13 1) fun (n17:Int)=>callP Tryd.prog 59 #[(.pointer r5.1),(.int .i64 n17)] [.c (.I .i64)] fun (r18:Int)=>nz r5.1 fun (p19:Addr)=>ld (.I .i64) (Addr.add p19 1) fun (n20:Int)=>cnd (decide (n20<(0:Int))) (ixA 1 2 p6 (IntKind.wrap .i64 ((1:Int)-x7.2)) fun (p21:Addr)=>ld (.I .i64) p21 fun (n22:Int)=>ixS 3 s1 n22 fun (p23:Addr)=>ld (.I .i64) p23 fun (n24:Int)=>nw [(.int .u8 (IntKind.wrap .u8 n24))] 5 fun (p25:Addr)=>app z5 5 1 s16 ⟨(some p25),1,1⟩ fun (s26:Sl)=>K4 (s26,(decide ((s26.l:Int)≤n3)))) (ld (.I .i64) (Addr.add p13 2) fun (n27:Int)=>ixA 1 2 p6 x7.2 fun (p28:Addr)=>st p28 (.int .i64 (IntKind.wrap .i64 (n27+r18)))<|ixA 1 2 p6 x7.2 fun (p29:Addr)=>ld (.I .i64) p29 fun (n30:Int)=>cnd (decide (n30<(0:Int))) (K4 (⟨none,0,0⟩,false)) (ixA 1 2 p6 x7.2 fun (p31:Addr)=>ld (.I .i64) p31 fun (n32:Int)=>cnd (decide ((s1.l:Int)≤n32)) (K4 (⟨none,0,0⟩,false)) (A8 (s16,(IntKind.wrap .i64 ((1:Int)-x7.2)))))))
def q60 (s0:Sl) (s1:Sl) (n2:Int) (n3:Int) (K4:(Sl×Bool)→PT):PT :=
 callP Tryd.prog 58 #[(.slice s0.a s0.l s0.c),(.int .i64 n2)] [.c .P,.m [(.I .i64),(.I .i64)],.c .B] fun (r5:Option Addr×(Int×Int)×Bool)=>nw z109 109 fun (p6:Addr)=>stL p6 0 [(.int .i64 r5.2.1.1),(.int .i64 r5.2.1.2)]<|cnd (!r5.2.2) (K4 (⟨none,0,0⟩,false)) (loopP (⟨none,0,0⟩,(0:Int)) (q60_L0 s1 n3 K4 r5 p6))
def h60:Hint:=⟨(.n .e 126 ([(13,.c .S),(14,.c (.I .i64))],[10,1,11,3]) .e),.e⟩
theorem q60_eq (s0:Sl) (s1:Sl) (n2:Int) (n3:Int) (K4:(Sl×Bool)→PT):fnE Cx h60 [.c .S,.c .B] Tryd.f60 [.v (.slice s0.a s0.l s0.c),.v (.slice s1.a s1.l s1.c),.v (.int .i64 n2),.v (.int .i64 n3)] K4=q60 s0 s1 n2 n3 K4:=by kernel_rfl
theorem q60_fnok:fnOk Tryd.f60 4=true:=by kernel_rfl
theorem q60_ok (s0:Sl) (s1:Sl) (n2:Int) (n3:Int) (K4:(Sl×Bool)→PT) {w:World} (h:q60 s0 s1 n2 n3 K4 w):Calls Tryd.prog 60 #[(.slice s0.a s0.l s0.c),(.slice s1.a s1.l s1.c),(.int .i64 n2),(.int .i64 n3)] w fun e w'=>∃r,e = .returned (resMk [.c .S,.c .B] r)∧K4 r w' :=
 of_eq Tryd.func60 q60_fnok (by kernel_rfl) (by kernel_rfl) (q60_eq s0 s1 n2 n3 K4) h
def q61_L0 (x6:(Addr)) (R24:Unit→PT) (x25:Int) (A26:Int→PT):PT :=
 cnd (decide (x25<(256:Int))) (ixA 1 256 x6 x25 fun (p27:Addr)=>st p27 (.int .u32 (0:Int))<|A26 (IntKind.wrap .i64 (x25+(1:Int)))) (R24 ())
def q61_J1 (x6:(Addr)) (R21:Unit→PT) (x28:Unit):PT :=
 st (Addr.add x6 267) (.bool false)<|R21 ()
def q61_J2 (s1:Sl) (K2:(Option Addr×Value)→PT) (x6:(Addr)) (x45:Unit):PT :=
 st (Addr.add x6 260) (.int .i64 (s1.l:Int))<|K2 ((some x6),.nilIface)
def q61_J3 (s1:Sl) (K2:(Option Addr×Value)→PT) (x6:(Addr)) (x39:Unit):PT :=
 ld .S (Addr.add x6 273) fun (s40:Sl)=>slc 1 s40 none (some (0:Int)) none fun (s41:Sl)=>st (Addr.add x6 273) (.slice s41.a s41.l s41.c)<|joinP (fun R42=>ld .P (Addr.add x6 278) fun (o43:Option Addr)=>cnd (Option.isNone o43) (nwA ⟨z134⟩ 134 fun (p44:Addr)=>st (Addr.add x6 278) (.pointer (some p44))<|R42 ()) (R42 ())) (q61_J2 s1 K2 x6)
def q61_J4 (s1:Sl) (K2:(Option Addr×Value)→PT) (x6:(Addr)) (x33:Unit):PT :=
 ld .S (Addr.add x6 256) fun (s34:Sl)=>slc 1 s34 none (some (0:Int)) none fun (s35:Sl)=>st (Addr.add x6 256) (.slice s35.a s35.l s35.c)<|st (Addr.add x6 257) (.slice none 0 0)<|st (Addr.add x6 258) (.slice none 0 0)<|joinP (fun R36=>ld .S (Addr.add x6 273) fun (s37:Sl)=>cnd (decide ((s37.c:Int)<(513:Int))) (mks z196 196 8 (0:Int) (513:Int) fun (s38:Sl)=>st (Addr.add x6 273) (.slice s38.a s38.l s38.c)<|R36 ()) (R36 ())) (q61_J3 s1 K2 x6)
def q61_J5 (s1:Sl) (K2:(Option Addr×Value)→PT) (x6:(Addr)) (x29:Unit):PT :=
 joinP (fun R30=>ld .S (Addr.add x6 256) fun (s31:Sl)=>cnd (decide ((s31.c:Int)=(0:Int))) (mks z5 5 1 (0:Int) (s1.l:Int) fun (s32:Sl)=>st (Addr.add x6 256) (.slice s32.a s32.l s32.c)<|R30 ()) (R30 ())) (q61_J4 s1 K2 x6)
def q61_J6 (s1:Sl) (K2:(Option Addr×Value)→PT) (x6:(Addr)) (x20:Unit):PT :=
 joinP (fun R21=>ld .B (Addr.add x6 267) fun (b22:Bool)=>cnd b22 (ld (.I .i64) (Addr.add x6 266) fun (n23:Int)=>cnd (decide (n23=(0:Int))) (joinP (fun R24=>loopP (0:Int) (q61_L0 x6 R24)) (q61_J1 x6 R21)) (R21 ())) (R21 ())) (q61_J5 s1 K2 x6)
def q61_J7 (s1:Sl) (K2:(Option Addr×Value)→PT) (x6:(Addr)) (x12:Unit):PT :=
 ld (.I .u8) (Addr.add x6 262) fun (n13:Int)=>cnd (decide ((11:Int)<n13)) (callP Tryd.prog 62 #[(.string ⟨#[105,110,118,97,108,105,100,32,116,97,98,108,101,76,111,103,32,45]⟩)] [.c .V] fun (r14:Value)=>K2 ((none:Option Addr),r14)) (ld (.I .u8) (Addr.add x6 262) fun (n15:Int)=>cnd (decide (n15<(5:Int))) (callP Tryd.prog 62 #[(.string ⟨#[105,110,118,97,108,105,100,32,116,97,98,108,101,76,111,103,32,45]⟩)] [.c .V] fun (r16:Value)=>K2 ((none:Option Addr),r16)) (joinP (fun R17=>ld (.I .i64) (Addr.add x6 259) fun (n18:Int)=>cnd (decide (n18≤(0:Int))) (st (Addr.add x6 259) (.int .i64 (262143:Int))<|R17 ()) (ld (.I .i64) (Addr.add x6 259) fun (n19:Int)=>cnd (decide ((262143:Int)<n19)) (st (Addr.add x6 259) (.int .i64 (262143:Int))<|R17 ()) (R17 ()))) (q61_J6 s1 K2 x6)))
def q61_J8 (s1:Sl) (K2:(Option Addr×Value)→PT) (x6:(Addr)) (x9:Unit):PT :=
 joinP (fun R10=>ld (.I .u8) (Addr.add x6 262) fun (n11:Int)=>cnd (decide (n11=(0:Int))) (st (Addr.add x6 262) (.int .u8 (11:Int))<|R10 ()) (R10 ())) (q61_J7 s1 K2 x6)
def q61_J9 (s1:Sl) (K2:(Option Addr×Value)→PT) (x6:Addr):PT :=
 joinP (fun R7=>ld (.I .u8) (Addr.add x6 261) fun (n8:Int)=>cnd (decide (n8=(0:Int))) (st (Addr.add x6 261) (.int .u8 (255:Int))<|R7 ()) (R7 ())) (q61_J8 s1 K2 x6)
def q61 (p0:Addr) (s1:Sl) (K2:(Option Addr×Value)→PT):PT :=
 cnd (decide ((262143:Int)<(s1.l:Int))) (drw<|ld .V ⟨2,0,none⟩ fun (v3:Value)=>K2 ((none:Option Addr),v3)) (joinP (fun R4=>cnd (Option.isNone (some p0)) (nwA ⟨z94⟩ 94 fun (p5:Addr)=>R4 p5) (R4 p0)) (q61_J9 s1 K2))
def h61:Hint:=⟨(.n (.n (.n (.n .e 7 ([(0,.q)],[1]) .e) 15 ([],[1,0]) .e) 31 ([],[1,0]) (.n (.n .e 127 ([],[0,1]) .e) 255 ([],[1,0]) .e)) 511 ([],[1,0]) (.n (.n (.n .e 2042 ([],[1,0]) .e) 8191 ([],[1,0]) .e) 16338 ([(70,.c (.I .i64))],[0,1]) (.n .e 32767 ([],[1,0]) .e))),.e⟩
theorem q61_eq (p0:Addr) (s1:Sl) (K2:(Option Addr×Value)→PT):fnE Cx h61 [.c .P,.c .V] Tryd.f61 [.pt p0,.v (.slice s1.a s1.l s1.c)] K2=q61 p0 s1 K2:=by kernel_rfl
theorem q61_fnok:fnOk Tryd.f61 2=true:=by kernel_rfl
theorem q61_ok (p0:Addr) (s1:Sl) (K2:(Option Addr×Value)→PT) {w:World} (h:q61 p0 s1 K2 w):Calls Tryd.prog 61 #[(.pointer (some p0)),(.slice s1.a s1.l s1.c)] w fun e w'=>∃r,e = .returned (resMk [.c .P,.c .V] r)∧K2 r w' :=
 of_eq Tryd.func61 q61_fnok (by kernel_rfl) (by kernel_rfl) (q61_eq p0 s1 K2) h
def q62 (t0:ByteArray) (K1:(Value)→PT):PT :=
 nw [(.string t0)] 162 fun (p2:Addr)=>K1 (.iface 160 (.pointer (some p2)))
def h62:Hint:=⟨.e,.e⟩
theorem q62_eq (t0:ByteArray) (K1:(Value)→PT):fnE Cx h62 [.c .V] Tryd.f62 [.v (.string t0)] K1=q62 t0 K1:=by kernel_rfl
theorem q62_fnok:fnOk Tryd.f62 1=true:=by kernel_rfl
theorem q62_ok (t0:ByteArray) (K1:(Value)→PT) {w:World} (h:q62 t0 K1 w):Calls Tryd.prog 62 #[(.string t0)] w fun e w'=>∃r,e = .returned (resMk [.c .V] r)∧K1 r w' :=
 of_eq Tryd.func62 q62_fnok (by kernel_rfl) (by kernel_rfl) (q62_eq t0 K1) h
def q64 (n0:Int) (K1:Int→PT):PT :=
 callP Tryd.prog 81 #[(.int .u32 n0)] [.c (.I .i64)] fun (r2:Int)=>K1 (IntKind.wrap .u32 (IntKind.wrap .i64 (r2-(1:Int))))
def h64:Hint:=⟨.e,.e⟩
theorem q64_eq (n0:Int) (K1:Int→PT):fnE Cx h64 [.c (.I .u32)] Tryd.f64 [.v (.int .u32 n0)] K1=q64 n0 K1:=by kernel_rfl
theorem q64_fnok:fnOk Tryd.f64 1=true:=by kernel_rfl
theorem q64_ok (n0:Int) (K1:Int→PT) {w:World} (h:q64 n0 K1 w):Calls Tryd.prog 64 #[(.int .u32 n0)] w fun e w'=>∃r,e = .returned (resMk [.c (.I .u32)] r)∧K1 r w' :=
 of_eq Tryd.func64 q64_fnok (by kernel_rfl) (by kernel_rfl) (q64_eq n0 K1) h
def q65_L0 (p3:Addr) (n5:Int) (R11:Unit→PT) (x12:Int) (A13:Int→PT):PT :=
 cnd (decide (x12<(IntKind.wrap .u8 (n5+(1:Int))))) (ixA 1 12 p3 x12 fun (p14:Addr)=>st p14 (.int .u8 (IntKind.wrap .u8 ((IntKind.wrap .u8 (n5+(1:Int)))-x12)))<|A13 (IntKind.wrap .u8 (x12+(1:Int)))) (R11 ())
def q65_L1 (s19:Sl) (R20:Unit→PT) (s21:Sl) (x22:Int) (A23:Int→PT):PT :=
 cnd (decide (x22<(s21.l:Int))) (ixS 1 s19 x22 fun (p24:Addr)=>st p24 (.int .u32 (0:Int))<|A23 (IntKind.wrap .i64 (x22+(1:Int)))) (R20 ())
def q65_L2 (s0:Sl) (p3:Addr) (n7:Int) (s9:Sl) (s19:Sl) (R26:Unit→PT) (x27:Int) (A28:Int→PT):PT :=
 cnd (decide (x27<(IntKind.wrap .u8 (IntKind.wrap .u16 (n7-(1:Int)))))) (ixS 2 s0 x27 fun (p29:Addr)=>ld (.I .u8) (Addr.add p29 1) fun (n30:Int)=>ixA 1 12 p3 n30 fun (p31:Addr)=>ld (.I .u8) p31 fun (n32:Int)=>ixS 1 s9 x27 fun (p33:Addr)=>st p33 (.int .u8 (andI .u8 n32 (15:Int)))<|ixS 1 s19 (andI .u8 n32 (15:Int)) fun (p34:Addr)=>ld (.I .u32) p34 fun (n35:Int)=>ixS 1 s19 (andI .u8 n32 (15:Int)) fun (p36:Addr)=>st p36 (.int .u32 (IntKind.wrap .u32 (n35+(1:Int))))<|A28 (IntKind.wrap .u8 (x27+(1:Int)))) (R26 ())
def q65_J3 (x41:(Int×Int×Int)) (A42:(Int×Int×Int)→PT) (x46:Int×Int):PT :=
 A42 (x46.1,x46.2,(IntKind.wrap .i64 (x41.2.2+(1:Int))))
def q65_L4 (R39:Int×Int→PT) (s40:Sl) (x41:Int×Int×Int) (A42:(Int×Int×Int)→PT):PT :=
 cnd (decide (x41.2.2<(s40.l:Int))) (joinP (fun R43=>ixS 1 s40 x41.2.2 fun (p44:Addr)=>ld (.I .u32) p44 fun (n45:Int)=>cnd (decide (n45=(0:Int))) (R43 (x41.1,x41.2.1)) (cnd (decide (x41.1<n45)) (R43 (n45,(IntKind.wrap .u8 x41.2.2))) (R43 (x41.1,(IntKind.wrap .u8 x41.2.2))))) (q65_J3 x41 A42)) (R39 (x41.1,x41.2.1))
def q65_J5 (o1:Option Addr) (K2:(Value)→PT) (n7:Int) (s9:Sl) (R38:Unit→PT) (x47:Int×Int):PT :=
 nz o1 fun (p48:Addr)=>ld .P (Addr.add p48 278) fun (o49:Option Addr)=>callP Tryd.prog 83 #[(.pointer o49),(.int .u8 x47.2),(.int .i64 (IntKind.wrap .i64 x47.1))] [] fun (r50:Unit)=>nz o1 fun (p51:Addr)=>ld .P (Addr.add p51 278) fun (o52:Option Addr)=>nz o52 fun (p53:Addr)=>st (Addr.add p53 533) (.int .u8 (6:Int))<|drw<|slc 1 s9 none (some (IntKind.wrap .u8 (IntKind.wrap .u16 (n7-(1:Int))))) none fun (s54:Sl)=>nz o1 fun (p55:Addr)=>ld .P (Addr.add p55 278) fun (o56:Option Addr)=>callP Tryd.prog 84 #[(.slice s54.a s54.l s54.c),(.pointer o56)] [.c .S,.c .V] fun (r57:Sl×Value)=>req (isIf r57.2=true)<|cnd (isNil r57.2) (nz o1 fun (p58:Addr)=>ld (.I .u16) (Addr.add p58 265) fun (n59:Int)=>req (0≤(1:Int))<|cnd (decide ((r57.1.l:Int)<(IntKind.wrap .i64 (shrI .u16 n59 (1:Int))))) (nz o1 fun (p60:Addr)=>ld .S (Addr.add p60 256) fun (s61:Sl)=>nw [(.int .u8 (IntKind.wrap .u8 (r57.1.l:Int)))] 5 fun (p62:Addr)=>app z5 5 1 s61 ⟨(some p62),1,1⟩ fun (s63:Sl)=>nz o1 fun (p64:Addr)=>st (Addr.add p64 256) (.slice s63.a s63.l s63.c)<|nz o1 fun (p65:Addr)=>ld .S (Addr.add p65 256) fun (s66:Sl)=>app z5 5 1 s66 r57.1 fun (s67:Sl)=>nz o1 fun (p68:Addr)=>st (Addr.add p68 256) (.slice s67.a s67.l s67.c)<|K2 .nilIface) (R38 ())) (R38 ())
def q65_L6 (n7:Int) (s9:Sl) (R76:Sl→PT) (x77:Sl×Int) (A78:(Sl×Int)→PT):PT :=
 cnd (decide (x77.2<(IntKind.wrap .u16 (IntKind.wrap .u8 (IntKind.wrap .u16 (n7-(1:Int))))))) (drw<|ixS 1 s9 x77.2 fun (p79:Addr)=>ld (.I .u8) p79 fun (n80:Int)=>req (0≤(4:Int))<|ixS 1 s9 (IntKind.wrap .u16 (x77.2+(1:Int))) fun (p81:Addr)=>ld (.I .u8) p81 fun (n82:Int)=>nw [(.int .u8 (orI .u8 (shlI .u8 n80 (4:Int)) n82))] 5 fun (p83:Addr)=>app z5 5 1 x77.1 ⟨(some p83),1,1⟩ fun (s84:Sl)=>A78 (s84,(IntKind.wrap .u16 (x77.2+(2:Int))))) (R76 x77.1)
def q65_J7 (o1:Option Addr) (K2:(Value)→PT) (x85:Sl):PT :=
 nz o1 fun (p86:Addr)=>st (Addr.add p86 256) (.slice x85.a x85.l x85.c)<|K2 .nilIface
def q65_J8 (o1:Option Addr) (K2:(Value)→PT) (n7:Int) (s9:Sl) (x69:Unit):PT :=
 cnd (decide ((128:Int)<(IntKind.wrap .u8 (IntKind.wrap .u16 (n7-(1:Int)))))) (ld .V ⟨0,0,none⟩ fun (v70:Value)=>K2 v70) (nz o1 fun (p71:Addr)=>ld .S (Addr.add p71 256) fun (s72:Sl)=>nw [(.int .u8 (orI .u8 (128:Int) (IntKind.wrap .u8 ((IntKind.wrap .u8 (IntKind.wrap .u16 (n7-(1:Int))))-(1:Int)))))] 5 fun (p73:Addr)=>app z5 5 1 s72 ⟨(some p73),1,1⟩ fun (s74:Sl)=>ixS 1 s9 (IntKind.wrap .u8 (IntKind.wrap .u16 (n7-(1:Int)))) fun (p75:Addr)=>st p75 (.int .u8 (0:Int))<|joinP (fun R76=>loopP (s74,(0:Int)) (q65_L6 n7 s9 R76)) (q65_J7 o1 K2))
def q65_J9 (o1:Option Addr) (K2:(Value)→PT) (n7:Int) (s9:Sl) (s19:Sl) (x37:Unit):PT :=
 joinP (fun R38=>cnd (decide ((2:Int)≤(IntKind.wrap .u8 (IntKind.wrap .u16 (n7-(1:Int)))))) (joinP (fun R39=>slc 1 s19 none (some (16:Int)) none fun (s40:Sl)=>loopP ((0:Int),(0:Int),(0:Int)) (q65_L4 R39 s40)) (q65_J5 o1 K2 n7 s9 R38)) (R38 ())) (q65_J8 o1 K2 n7 s9)
def q65_J10 (s0:Sl) (o1:Option Addr) (K2:(Value)→PT) (p3:Addr) (n7:Int) (s9:Sl) (s19:Sl) (x25:Unit):PT :=
 joinP (fun R26=>loopP (0:Int) (q65_L2 s0 p3 n7 s9 s19 R26)) (q65_J9 o1 K2 n7 s9 s19)
def q65_J11 (s0:Sl) (o1:Option Addr) (K2:(Value)→PT) (p3:Addr) (n7:Int) (s9:Sl) (x15:Unit):PT :=
 nz o1 fun (p16:Addr)=>ld .P (Addr.add p16 278) fun (o17:Option Addr)=>callP Tryd.prog 82 #[(.pointer o17)] [.c .S] fun (r18:Sl)=>slc 1 r18 none (some (256:Int)) none fun (s19:Sl)=>joinP (fun R20=>slc 1 s19 none (some (16:Int)) none fun (s21:Sl)=>loopP (0:Int) (q65_L1 s19 R20 s21)) (q65_J10 s0 o1 K2 p3 n7 s9 s19)
def q65 (s0:Sl) (o1:Option Addr) (K2:(Value)→PT):PT :=
 nw z167 167 fun (p3:Addr)=>nz o1 fun (p4:Addr)=>ld (.I .u8) (Addr.add p4 268) fun (n5:Int)=>nz o1 fun (p6:Addr)=>ld (.I .u16) (Addr.add p6 265) fun (n7:Int)=>nz o1 fun (p8:Addr)=>slcA 1 256 (Addr.add p8 279) none (some (256:Int)) none fun (s9:Sl)=>ixA 1 12 p3 (0:Int) fun (p10:Addr)=>st p10 (.int .u8 (0:Int))<|joinP (fun R11=>loopP (1:Int) (q65_L0 p3 n5 R11)) (q65_J11 s0 o1 K2 p3 n7 s9)
def h65:Hint:=⟨(.n (.n (.n (.n .e 127 ([],[8,5,0,7,1]) .e) 1018 ([(9,.c (.I .u8))],[5,6,8,0,7,1]) (.n .e 1023 ([],[10,8,5,0,7,1]) .e)) 2047 ([],[10,8,7,1]) (.n (.n .e 4095 ([],[7,1,8]) .e) 8186 ([(59,.c (.I .i64))],[10,8,5,0,7,1,58]) .e)) 16378 ([(67,.c (.I .u8))],[10,8,5,0,7,1,66]) (.n (.n (.n .e 131051 ([(14,.c (.I .u32)),(15,.c (.I .u8))],[8,7,1]) .e) 131071 ([(20,.c .S)],[1]) .e) 1048410 ([(14,.c (.I .u32)),(15,.c (.I .u8)),(94,.c (.I .i64))],[92,8,7,1,93]) (.n (.n .e 1048570 ([(20,.c .S),(21,.c (.I .u16))],[8,1,7]) .e) 8387283 ([(14,.c (.I .u32)),(15,.c (.I .u8))],[94,92,8,7,1,93]) .e))),.e⟩
theorem q65_eq (s0:Sl) (o1:Option Addr) (K2:(Value)→PT):fnE Cx h65 [.c .V] Tryd.f65 [.v (.slice s0.a s0.l s0.c),.v (.pointer o1)] K2=q65 s0 o1 K2:=by kernel_rfl
theorem q65_fnok:fnOk Tryd.f65 2=true:=by kernel_rfl
theorem q65_ok (s0:Sl) (o1:Option Addr) (K2:(Value)→PT) {w:World} (h:q65 s0 o1 K2 w):Calls Tryd.prog 65 #[(.slice s0.a s0.l s0.c),(.pointer o1)] w fun e w'=>∃r,e = .returned (resMk [.c .V] r)∧K2 r w' :=
 of_eq Tryd.func65 q65_fnok (by kernel_rfl) (by kernel_rfl) (q65_eq s0 o1 K2) h
def q67_J0 (p0:Addr) (n1:Int) (K2:Int→PT) (r5:Int×Bool) (x8:Unit):PT :=
 ld (.I .i64) (Addr.add p0 1) fun (n9:Int)=>st (Addr.add p0 1) (.int .i64 (IntKind.wrap .i64 (n9+n1)))<|K2 r5.1
def q67 (p0:Addr) (n1:Int) (K2:Int→PT):PT :=
 drw<|ld .S p0 fun (s3:Sl)=>ld (.I .i64) (Addr.add p0 1) fun (n4:Int)=>callP Tryd.prog 87 #[(.slice s3.a s3.l s3.c),(.int .i64 n4),(.int .i64 n1)] [.c (.I .i64),.c .B] fun (r5:Int×Bool)=>joinP (fun R6=>ld .B (Addr.add p0 2) fun (b7:Bool)=>cnd b7 (st (Addr.add p0 2) (.bool r5.2)<|R6 ()) (st (Addr.add p0 2) (.bool false)<|R6 ())) (q67_J0 p0 n1 K2 r5)
def h67:Hint:=⟨(.n .e 7 ([],[0,1,5]) .e),.e⟩
theorem q67_eq (p0:Addr) (n1:Int) (K2:Int→PT):fnE Cx h67 [.c (.I .i64)] Tryd.f67 [.pt p0,.v (.int .i64 n1)] K2=q67 p0 n1 K2:=by kernel_rfl
theorem q67_fnok:fnOk Tryd.f67 2=true:=by kernel_rfl
theorem q67_ok (p0:Addr) (n1:Int) (K2:Int→PT) {w:World} (h:q67 p0 n1 K2 w):Calls Tryd.prog 67 #[(.pointer (some p0)),(.int .i64 n1)] w fun e w'=>∃r,e = .returned (resMk [.c (.I .i64)] r)∧K2 r w' :=
 of_eq Tryd.func67 q67_fnok (by kernel_rfl) (by kernel_rfl) (q67_eq p0 n1 K2) h
def q68_J0 (K2:Int→PT) (x9:Int):PT :=
 K2 x9
def q68_J1 (n1:Int) (K2:Int→PT) (r3:Int) (x7:Int):PT :=
 joinP (fun R8=>req (0≤(IntKind.wrap .i64 ((IntKind.wrap .i64 (r3+(1:Int)))-(1:Int))))<|cnd (decide ((shlI .i64 (1:Int) (IntKind.wrap .i64 ((IntKind.wrap .i64 (r3+(1:Int)))-(1:Int))))≤x7)) (R8 (IntKind.wrap .i64 (x7-(IntKind.wrap .i64 ((IntKind.wrap .i64 ((shlI .i64 (1:Int) (IntKind.wrap .i64 (r3+(1:Int))))-(1:Int)))-n1))))) (R8 x7)) (q68_J0 K2)
def q68 (p0:Addr) (n1:Int) (K2:Int→PT):PT :=
 callP Tryd.prog 44 #[(.int .i64 n1)] [.c (.I .i64)] fun (r3:Int)=>req (0≤(IntKind.wrap .i64 (r3+(1:Int))))<|callP Tryd.prog 67 #[(.pointer (some p0)),(.int .i64 (IntKind.wrap .i64 ((IntKind.wrap .i64 (r3+(1:Int)))-(1:Int))))] [.c (.I .i64)] fun (r4:Int)=>cnd (decide (r4<(IntKind.wrap .i64 ((IntKind.wrap .i64 ((shlI .i64 (1:Int) (IntKind.wrap .i64 (r3+(1:Int))))-(1:Int)))-n1)))) (K2 r4) (joinP (fun R5=>callP Tryd.prog 67 #[(.pointer (some p0)),(.int .i64 (1:Int))] [.c (.I .i64)] fun (r6:Int)=>cnd (decide (r6=(1:Int))) (req (0≤(IntKind.wrap .i64 ((IntKind.wrap .i64 (r3+(1:Int)))-(1:Int))))<|R5 (IntKind.wrap .i64 (r4+(shlI .i64 (1:Int) (IntKind.wrap .i64 ((IntKind.wrap .i64 (r3+(1:Int)))-(1:Int))))))) (R5 r4)) (q68_J1 n1 K2 r3))
def h68:Hint:=⟨(.n (.n .e 63 ([(7,.c (.I .i64))],[5,6]) .e) 127 ([(7,.c (.I .i64))],[]) .e),.e⟩
theorem q68_eq (p0:Addr) (n1:Int) (K2:Int→PT):fnE Cx h68 [.c (.I .i64)] Tryd.f68 [.pt p0,.v (.int .i64 n1)] K2=q68 p0 n1 K2:=by kernel_rfl
theorem q68_fnok:fnOk Tryd.f68 2=true:=by kernel_rfl
theorem q68_ok (p0:Addr) (n1:Int) (K2:Int→PT) {w:World} (h:q68 p0 n1 K2 w):Calls Tryd.prog 68 #[(.pointer (some p0)),(.int .i64 n1)] w fun e w'=>∃r,e = .returned (resMk [.c (.I .i64)] r)∧K2 r w' :=
 of_eq Tryd.func68 q68_fnok (by kernel_rfl) (by kernel_rfl) (q68_eq p0 n1 K2) h
def q69_L0 (p0:Addr) (r5:Int) (R6:Unit→PT) (x7:Int) (A8:Int→PT):PT :=
 cnd (decide (x7<r5)) (ld .S (Addr.add p0 3) fun (s9:Sl)=>nw [(.int .i64 (0:Int))] 3 fun (p10:Addr)=>app z3 3 8 s9 ⟨(some p10),1,1⟩ fun (s11:Sl)=>st (Addr.add p0 3) (.slice s11.a s11.l s11.c)<|A8 (IntKind.wrap .i64 (x7+(1:Int)))) (R6 ())
def q69_J1 (p0:Addr) (K1:Unit→PT) (A3:Unit→PT) (r5:Int) (x12:Unit):PT :=
 cnd (decide (r5<(3:Int))) (K1 ()) (ld .S (Addr.add p0 3) fun (s13:Sl)=>cnd (decide ((256:Int)<(s13.l:Int))) (K1 ()) (A3 ()))
def q69_L2 (p0:Addr) (K1:Unit→PT) (x2:Unit) (A3:Unit→PT):PT :=
 ld .B (Addr.add p0 2) fun (b4:Bool)=>cnd b4 (callP Tryd.prog 67 #[(.pointer (some p0)),(.int .i64 (2:Int))] [.c (.I .i64)] fun (r5:Int)=>joinP (fun R6=>loopP (0:Int) (q69_L0 p0 r5 R6)) (q69_J1 p0 K1 A3 r5)) (K1 ())
def q69 (p0:Addr) (K1:Unit→PT):PT :=
 loopP () (q69_L2 p0 K1)
def h69:Hint:=⟨(.n (.n .e 2 ([],[0]) .e) 37 ([],[2,0]) (.n .e 298 ([(3,.c (.I .i64))],[0,2]) .e)),.e⟩
theorem q69_eq (p0:Addr) (K1:Unit→PT):fnE Cx h69 [] Tryd.f69 [.pt p0] K1=q69 p0 K1:=by kernel_rfl
theorem q69_fnok:fnOk Tryd.f69 1=true:=by kernel_rfl
theorem q69_ok (p0:Addr) (K1:Unit→PT) {w:World} (h:q69 p0 K1 w):Calls Tryd.prog 69 #[(.pointer (some p0))] w fun e w'=>∃r,e = .returned (resMk [] r)∧K1 r w' :=
 of_eq Tryd.func69 q69_fnok (by kernel_rfl) (by kernel_rfl) (q69_eq p0 K1) h
def q70 (s0:Sl) (o1:Option Addr) (K2:(Sl×Bool×Value)→PT):PT :=
 callP Tryd.prog 61 #[(.pointer o1),(.slice s0.a s0.l s0.c)] [.c .P,.c .V] fun (r3:Option Addr×Value)=>req (isIf r3.2=true)<|cnd (!(isNil r3.2)) (K2 (⟨none,0,0⟩,false,r3.2)) (callP Tryd.prog 88 #[(.slice s0.a s0.l s0.c),(.pointer r3.1),(.func (.func 89) #[(.pointer r3.1)] #[])] [.c .S,.c .B,.c .V] fun (r4:Sl×Bool×Value)=>K2 (r4.1,r4.2.1,r4.2.2))
def h70:Hint:=⟨.e,.e⟩
theorem q70_eq (s0:Sl) (o1:Option Addr) (K2:(Sl×Bool×Value)→PT):fnE Cx h70 [.c .S,.c .B,.c .V] Tryd.f70 [.v (.slice s0.a s0.l s0.c),.v (.pointer o1)] K2=q70 s0 o1 K2:=by kernel_rfl
theorem q70_fnok:fnOk Tryd.f70 2=true:=by kernel_rfl
theorem q70_ok (s0:Sl) (o1:Option Addr) (K2:(Sl×Bool×Value)→PT) {w:World} (h:q70 s0 o1 K2 w):Calls Tryd.prog 70 #[(.slice s0.a s0.l s0.c),(.pointer o1)] w fun e w'=>∃r,e = .returned (resMk [.c .S,.c .B,.c .V] r)∧K2 r w' :=
 of_eq Tryd.func70 q70_fnok (by kernel_rfl) (by kernel_rfl) (q70_eq s0 o1 K2) h
def q71 (s0:Sl) (o1:Option Addr) (K2:(Sl×Bool×Value)→PT):PT :=
 callP Tryd.prog 61 #[(.pointer o1),(.slice s0.a s0.l s0.c)] [.c .P,.c .V] fun (r3:Option Addr×Value)=>req (isIf r3.2=true)<|cnd (!(isNil r3.2)) (K2 (⟨none,0,0⟩,false,r3.2)) (callP Tryd.prog 88 #[(.slice s0.a s0.l s0.c),(.pointer r3.1),(.func (.func 90) #[(.pointer r3.1)] #[])] [.c .S,.c .B,.c .V] fun (r4:Sl×Bool×Value)=>K2 (r4.1,r4.2.1,r4.2.2))
def h71:Hint:=⟨.e,.e⟩
theorem q71_eq (s0:Sl) (o1:Option Addr) (K2:(Sl×Bool×Value)→PT):fnE Cx h71 [.c .S,.c .B,.c .V] Tryd.f71 [.v (.slice s0.a s0.l s0.c),.v (.pointer o1)] K2=q71 s0 o1 K2:=by kernel_rfl
theorem q71_fnok:fnOk Tryd.f71 2=true:=by kernel_rfl
theorem q71_ok (s0:Sl) (o1:Option Addr) (K2:(Sl×Bool×Value)→PT) {w:World} (h:q71 s0 o1 K2 w):Calls Tryd.prog 71 #[(.slice s0.a s0.l s0.c),(.pointer o1)] w fun e w'=>∃r,e = .returned (resMk [.c .S,.c .B,.c .V] r)∧K2 r w' :=
 of_eq Tryd.func71 q71_fnok (by kernel_rfl) (by kernel_rfl) (q71_eq s0 o1 K2) h
def q72 (s0:Sl) (K1:(Option Addr×Bool)→PT):PT :=
 cnd (decide ((s0.l:Int)=(0:Int))) (K1 ((none:Option Addr),false)) (ixS 1 s0 (IntKind.wrap .i64 ((s0.l:Int)-(1:Int))) fun (p2:Addr)=>ld (.I .u8) p2 fun (n3:Int)=>cnd (decide (n3=(0:Int))) (K1 ((none:Option Addr),false)) (ixS 1 s0 (IntKind.wrap .i64 ((s0.l:Int)-(1:Int))) fun (p4:Addr)=>ld (.I .u8) p4 fun (n5:Int)=>callP Tryd.prog 44 #[(.int .i64 (IntKind.wrap .i64 n5))] [.c (.I .i64)] fun (r6:Int)=>nw [(.slice s0.a s0.l s0.c),(.int .i64 (IntKind.wrap .i64 ((IntKind.wrap .i64 ((8:Int)*(IntKind.wrap .i64 ((s0.l:Int)-(1:Int)))))+r6)))] 115 fun (p7:Addr)=>K1 ((some p7),true)))
def h72:Hint:=⟨.e,.e⟩
theorem q72_eq (s0:Sl) (K1:(Option Addr×Bool)→PT):fnE Cx h72 [.c .P,.c .B] Tryd.f72 [.v (.slice s0.a s0.l s0.c)] K1=q72 s0 K1:=by kernel_rfl
theorem q72_fnok:fnOk Tryd.f72 1=true:=by kernel_rfl
theorem q72_ok (s0:Sl) (K1:(Option Addr×Bool)→PT) {w:World} (h:q72 s0 K1 w):Calls Tryd.prog 72 #[(.slice s0.a s0.l s0.c)] w fun e w'=>∃r,e = .returned (resMk [.c .P,.c .B] r)∧K1 r w' :=
 of_eq Tryd.func72 q72_fnok (by kernel_rfl) (by kernel_rfl) (q72_eq s0 K1) h
def q74_J0 (x12:(Int×Int×Int×Int)) (R14:Int×Int×Int→PT) (n15:Int) (x17:Int):PT :=
 cnd (!decide (n15=(0:Int))) (R14 ((IntKind.wrap .i64 (x12.1+(IntKind.wrap .i64 n15))),x17,(IntKind.wrap .u16 ((IntKind.wrap .u16 x12.2.2.2)+(1:Int))))) (R14 ((IntKind.wrap .i64 (x12.1+(IntKind.wrap .i64 n15))),x17,x12.2.2.1))
def q74_J1 (x12:(Int×Int×Int×Int)) (A13:(Int×Int×Int×Int)→PT) (x18:Int×Int×Int):PT :=
 A13 (x18.1,x18.2.1,x18.2.2,(IntKind.wrap .i64 (x12.2.2.2+(1:Int))))
def q74_L2 (R9:Int×Int×Int→PT) (c11:Array Value) (x12:Int×Int×Int×Int) (A13:(Int×Int×Int×Int)→PT):PT :=
 cnd (decide (x12.2.2.2<(256:Int))) (joinP (fun R14=>ixV (.I .u32) c11 256 x12.2.2.2 fun (n15:Int)=>joinP (fun R16=>cnd (decide (x12.2.1<(IntKind.wrap .i64 n15))) (R16 (IntKind.wrap .i64 n15)) (R16 x12.2.1)) (q74_J0 x12 R14 n15)) (q74_J1 x12 A13)) (R9 (x12.1,x12.2.1,x12.2.2.1))
def q74_L3 (x19:(Int×Int×Int)) (R24:Int→PT) (x25:Int) (A26:Int→PT):PT :=
 req (0≤x25)<|cnd (decide ((262143:Int)<(shrI .i64 x19.1 x25))) (A26 (IntKind.wrap .u64 (x25+(1:Int)))) (R24 x25)
def q74_J4 (r5:Option Addr×Value) (x31:(Int×Int×Int)) (R33:Int×Int→PT) (x36:Int):PT :=
 nz r5.1 fun (p37:Addr)=>ixA 1 256 p37 x31.2.2 fun (p38:Addr)=>st p38 (.int .u32 x36)<|cnd (decide (x31.2.1<(IntKind.wrap .i64 x36))) (R33 ((IntKind.wrap .i64 (x31.1+(IntKind.wrap .i64 x36))),(IntKind.wrap .i64 x36))) (R33 ((IntKind.wrap .i64 (x31.1+(IntKind.wrap .i64 x36))),x31.2.1))
def q74_J5 (x31:(Int×Int×Int)) (A32:(Int×Int×Int)→PT) (x39:Int×Int):PT :=
 A32 (x39.1,x39.2,(IntKind.wrap .i64 (x31.2.2+(1:Int))))
def q74_X6 (r5:Option Addr×Value) (x27:(Int)) (c30:Array Value) (x31:(Int×Int×Int)) (R33:(Int×Int)→PT):PT :=
 ixV (.I .u32) c30 256 x31.2.2 fun (n34:Int)=>cnd (decide (n34=(0:Int))) (R33 (x31.1,x31.2.1)) (req (0≤x27)<|joinP (fun R35=>cnd (decide ((shrI .u32 (IntKind.wrap .u32 (n34+(IntKind.wrap .u32 ((shlI .u32 (1:Int) x27)-(1:Int))))) x27)=(0:Int))) (R35 (1:Int)) (R35 (shrI .u32 (IntKind.wrap .u32 (n34+(IntKind.wrap .u32 ((shlI .u32 (1:Int) x27)-(1:Int))))) x27))) (q74_J4 r5 x31 R33))
def q74_L7 (r5:Option Addr×Value) (x27:(Int)) (R28:Int×Int→PT) (c30:Array Value) (x31:Int×Int×Int) (A32:(Int×Int×Int)→PT):PT :=
 cnd (decide (x31.2.2<(256:Int))) (joinP (q74_X6 r5 x27 c30 x31) (q74_J5 x31 A32)) (R28 (x31.1,x31.2.1))
def q74_J8 (K2:(Value)→PT) (R23:Int×Int→PT) (x40:Int×Int):PT :=
 cnd (decide (x40.2=x40.1)) (ld .V ⟨1,0,none⟩ fun (v41:Value)=>K2 v41) (R23 (x40.1,x40.2))
def q74_J9 (K2:(Value)→PT) (r5:Option Addr×Value) (R23:Int×Int→PT) (x27:Int):PT :=
 req (0≤x27)<|joinP (fun R28=>nz r5.1 fun (p29:Addr)=>ldA 256 p29 fun (c30:Array Value)=>loopP ((0:Int),(0:Int),(0:Int)) (q74_L7 r5 x27 R28 c30)) (q74_J8 K2 R23)
def q74_J10 (K2:(Value)→PT) (r5:Option Addr×Value) (x54:Unit):PT :=
 drw<|nz r5.1 fun (p55:Addr)=>ld .S (Addr.add p55 270) fun (s56:Sl)=>nz r5.1 fun (p57:Addr)=>ld .S (Addr.add p57 271) fun (s58:Sl)=>slc 2 s56 none (some (s58.l:Int)) none fun (s59:Sl)=>nz r5.1 fun (p60:Addr)=>st (Addr.add p60 270) (.slice s59.a s59.l s59.c)<|drw<|nz r5.1 fun (p61:Addr)=>ld .S (Addr.add p61 270) fun (s62:Sl)=>nz r5.1 fun (p63:Addr)=>ld .S (Addr.add p63 271) fun (s64:Sl)=>cpy 2 s62 s64 fun (n65:Int)=>nz r5.1 fun (p66:Addr)=>ld (.I .u8) (Addr.add p66 268) fun (n67:Int)=>nz r5.1 fun (p68:Addr)=>st (Addr.add p68 269) (.int .u8 n67)<|nz r5.1 fun (p69:Addr)=>st (Addr.add p69 267) (.bool true)<|nz r5.1 fun (p70:Addr)=>st (Addr.add p70 266) (.int .i64 (0:Int))<|K2 .nilIface
def q74_J11 (K2:(Value)→PT) (r5:Option Addr×Value) (x19:(Int×Int×Int)) (x42:Int×Int):PT :=
 nz r5.1 fun (p43:Addr)=>st (Addr.add p43 265) (.int .u16 x19.2.2)<|nz r5.1 fun (p44:Addr)=>st (Addr.add p44 266) (.int .i64 x42.2)<|nz r5.1 fun (p45:Addr)=>st (Addr.add p45 260) (.int .i64 x42.1)<|callP Tryd.prog 91 #[(.pointer r5.1)] [.c .V] fun (r46:Value)=>req (isIf r46=true)<|cnd (!(isNil r46)) (K2 r46) (joinP (fun R47=>drw<|nz r5.1 fun (p48:Addr)=>ld .S (Addr.add p48 270) fun (s49:Sl)=>nz r5.1 fun (p50:Addr)=>ld .S (Addr.add p50 271) fun (s51:Sl)=>cnd (decide ((s49.c:Int)<(s51.l:Int))) (mks z140 140 4 (0:Int) (256:Int) fun (s52:Sl)=>nz r5.1 fun (p53:Addr)=>st (Addr.add p53 270) (.slice s52.a s52.l s52.c)<|R47 ()) (R47 ())) (q74_J10 K2 r5))
def q74_J12 (K2:(Value)→PT) (r5:Option Addr×Value) (x19:Int×Int×Int):PT :=
 cnd (decide (x19.1=(0:Int))) (callP Tryd.prog 62 #[(.string ⟨#[104,117,102,102,48,58,32,101,109,112,116,121,32,104,105,115,116,111,103,114,97,109]⟩)] [.c .V] fun (r20:Value)=>K2 r20) (cnd (decide (x19.2.2<(2:Int))) (ld .V ⟨1,0,none⟩ fun (v21:Value)=>K2 v21) (cnd (decide (x19.2.1=x19.1)) (ld .V ⟨1,0,none⟩ fun (v22:Value)=>K2 v22) (joinP (fun R23=>cnd (decide ((262143:Int)<x19.1)) (joinP (fun R24=>loopP (0:Int) (q74_L3 x19 R24)) (q74_J9 K2 r5 R23)) (R23 (x19.1,x19.2.1))) (q74_J11 K2 r5 x19))))
def q74 (p0:Addr) (o1:Option Addr) (K2:(Value)→PT):PT :=
 cnd (Option.isNone (some p0)) (callP Tryd.prog 62 #[(.string ⟨#[104,117,102,102,48,58,32,66,117,105,108,100,67,84,97,98,108,101,32,111,110,32,110,105,108,32,83,99,114,97,116,99,104]⟩)] [.c .V] fun (r3:Value)=>K2 r3) (cnd (Option.isNone o1) (callP Tryd.prog 62 #[(.string ⟨#[104,117,102,102,48,58,32,110,105,108,32,99,111,117,110,116,32,112,97,115,115,101,100,32,116,111,32,66,117,105,108,100,67,84,97,98,108,101]⟩)] [.c .V] fun (r4:Value)=>K2 r4) (callP Tryd.prog 61 #[(.pointer (some p0)),(.slice none 0 0)] [.c .P,.c .V] fun (r5:Option Addr×Value)=>req (isIf r5.2=true)<|cnd (!(isNil r5.2)) (K2 r5.2) (nz o1 fun (p6:Addr)=>ldA 256 p6 fun (c7:Array Value)=>nz r5.1 fun (p8:Addr)=>stA 256 p8 c7<|joinP (fun R9=>nz r5.1 fun (p10:Addr)=>ldA 256 p10 fun (c11:Array Value)=>loopP ((0:Int),(0:Int),(0:Int),(0:Int)) (q74_L2 R9 c11)) (q74_J12 K2 r5))))
def h74:Hint:=⟨(.n (.n (.n (.n .e 1023 ([(6,.c (.I .i64)),(7,.c (.I .i64)),(8,.c (.I .u16))],[0]) .e) 8186 ([(6,.c (.I .i64)),(7,.c (.I .i64)),(8,.c (.I .u16)),(43,.c (.I .i64))],[42,0]) (.n .e 8191 ([(6,.c (.I .i64)),(7,.c (.I .i64))],[8,0]) .e)) 65491 ([(6,.c (.I .i64)),(7,.c (.I .i64)),(8,.c (.I .u16))],[43,42,0]) (.n (.n .e 131061 ([(11,.c (.I .u64))],[0,8]) .e) 262143 ([],[0]) .e)) 524244 ([(11,.c (.I .u64))],[0,8,6]) (.n (.n (.n .e 1047859 ([(7,.c (.I .i64))],[10,8,9,43,6,42,0]) .e) 1048495 ([(13,.c (.I .i64)),(14,.c (.I .i64))],[0,8]) .e) 8387962 ([(13,.c (.I .i64)),(14,.c (.I .i64)),(89,.c (.I .i64))],[12,11,0,88,8]) (.n (.n .e 67103699 ([(13,.c (.I .i64)),(14,.c (.I .i64))],[89,12,11,0,88,8]) .e) 2147318375 ([(17,.c (.I .u32))],[15,13,14,89,12,11,0,88,8]) .e))),.e⟩
theorem q74_eq (p0:Addr) (o1:Option Addr) (K2:(Value)→PT):fnE Cx h74 [.c .V] Tryd.f74 [.pt p0,.v (.pointer o1)] K2=q74 p0 o1 K2:=by kernel_rfl
theorem q74_fnok:fnOk Tryd.f74 2=true:=by kernel_rfl
theorem q74_ok (p0:Addr) (o1:Option Addr) (K2:(Value)→PT) {w:World} (h:q74 p0 o1 K2 w):Calls Tryd.prog 74 #[(.pointer (some p0)),(.pointer o1)] w fun e w'=>∃r,e = .returned (resMk [.c .V] r)∧K2 r w' :=
 of_eq Tryd.func74 q74_fnok (by kernel_rfl) (by kernel_rfl) (q74_eq p0 o1 K2) h
def q75_L0 (s3:Sl) (R4:Unit→PT) (x5:Int) (A6:Int→PT):PT :=
 cnd (decide (x5<(s3.l:Int))) (ixS 1 s3 x5 fun (p7:Addr)=>st p7 (.int .i64 (-1:Int))<|A6 (IntKind.wrap .i64 (x5+(1:Int)))) (R4 ())
def q75_J1 (x10:(Int×Int)) (A11:(Int×Int)→PT) (x16:Int):PT :=
 A11 (x16,(IntKind.wrap .i64 (x10.2+(1:Int))))
def q75_L2 (s0:Sl) (s3:Sl) (R9:Int→PT) (x10:Int×Int) (A11:(Int×Int)→PT):PT :=
 cnd (decide (x10.2<(s0.l:Int))) (joinP (fun R12=>ixS 1 s0 x10.2 fun (p13:Addr)=>ld (.I .i64) p13 fun (n14:Int)=>cnd (decide (n14=(-1:Int))) (cnd (decide ((0:Int)≤x10.1)) (ixS 1 s3 x10.1 fun (p15:Addr)=>st p15 (.int .i64 x10.2)<|R12 (IntKind.wrap .i64 (x10.1-(1:Int)))) (R12 x10.1)) (R12 x10.1)) (q75_J1 x10 A11)) (R9 x10.1)
def q75_L3 (n1:Int) (x17:(Int)) (R26:Int→PT) (x28:Int) (A29:Int→PT):PT :=
 cnd (decide (x17<x28)) (cnd (decide (x28<(shlI .i64 (1:Int) n1))) (cnd (decide ((0:Int)≤x17)) (req ((shlI .i64 (1:Int) n1)≠0)<|A29 (Int.tmod (IntKind.wrap .i64 (x28+(IntKind.wrap .i64 ((IntKind.wrap .i64 ((quoI .i64 (shlI .i64 (1:Int) n1) (2:Int))+(quoI .i64 (shlI .i64 (1:Int) n1) (8:Int))))+(3:Int))))) (shlI .i64 (1:Int) n1))) (R26 x28)) (R26 x28)) (R26 x28)
def q75_J4 (x24:(Int×Int)) (A25:(Int×Int)→PT) (x30:Int):PT :=
 A25 (x30,(IntKind.wrap .i64 (x24.2+(1:Int))))
def q75_X5 (n1:Int) (K2:Sl→PT) (s3:Sl) (x17:(Int)) (x19:(Int×Int)) (x24:(Int×Int)) (R26:Int→PT):PT :=
 cnd (decide (x17<x24.1)) (K2 ⟨none,0,0⟩) (ixS 1 s3 x24.1 fun (p27:Addr)=>st p27 (.int .i64 x19.2)<|req ((shlI .i64 (1:Int) n1)≠0)<|loopP (Int.tmod (IntKind.wrap .i64 (x24.1+(IntKind.wrap .i64 ((IntKind.wrap .i64 ((quoI .i64 (shlI .i64 (1:Int) n1) (2:Int))+(quoI .i64 (shlI .i64 (1:Int) n1) (8:Int))))+(3:Int))))) (shlI .i64 (1:Int) n1)) (q75_L3 n1 x17 R26))
def q75_L6 (n1:Int) (K2:Sl→PT) (s3:Sl) (x17:(Int)) (x19:(Int×Int)) (R21:Int→PT) (n23:Int) (x24:Int×Int) (A25:(Int×Int)→PT):PT :=
 cnd (decide (x24.2<(maxI n23 (0:Int)))) (joinP (q75_X5 n1 K2 s3 x17 x19 x24) (q75_J4 x24 A25)) (R21 x24.1)
def q75_J7 (x19:(Int×Int)) (A20:(Int×Int)→PT) (x31:Int):PT :=
 A20 (x31,(IntKind.wrap .i64 (x19.2+(1:Int))))
def q75_L8 (s0:Sl) (n1:Int) (K2:Sl→PT) (s3:Sl) (x17:(Int)) (R18:Unit→PT) (x19:Int×Int) (A20:(Int×Int)→PT):PT :=
 cnd (decide (x19.2<(s0.l:Int))) (joinP (fun R21=>ixS 1 s0 x19.2 fun (p22:Addr)=>ld (.I .i64) p22 fun (n23:Int)=>loopP (x19.1,(0:Int)) (q75_L6 n1 K2 s3 x17 x19 R21 n23)) (q75_J7 x19 A20)) (R18 ())
def q75_J9 (K2:Sl→PT) (s3:Sl) (x32:Unit):PT :=
 K2 s3
def q75_J10 (s0:Sl) (n1:Int) (K2:Sl→PT) (s3:Sl) (x17:Int):PT :=
 req ((2:Int)≠0)<|req ((8:Int)≠0)<|joinP (fun R18=>loopP ((0:Int),(0:Int)) (q75_L8 s0 n1 K2 s3 x17 R18)) (q75_J9 K2 s3)
def q75_J11 (s0:Sl) (n1:Int) (K2:Sl→PT) (s3:Sl) (x8:Unit):PT :=
 joinP (fun R9=>loopP ((IntKind.wrap .i64 ((shlI .i64 (1:Int) n1)-(1:Int))),(0:Int)) (q75_L2 s0 s3 R9)) (q75_J10 s0 n1 K2 s3)
def q75 (s0:Sl) (n1:Int) (K2:Sl→PT):PT :=
 req (0≤n1)<|mks z3 3 8 (shlI .i64 (1:Int) n1) (shlI .i64 (1:Int) n1) fun (s3:Sl)=>joinP (fun R4=>loopP (0:Int) (q75_L0 s3 R4)) (q75_J11 s0 n1 K2 s3)
def h75:Hint:=⟨(.n (.n (.n (.n .e 15 ([],[6,0,5]) .e) 63 ([(8,.c (.I .i64))],[0,5,6]) .e) 122 ([(21,.c (.I .i64))],[6,0,5,20]) (.n (.n .e 506 ([(8,.c (.I .i64)),(32,.c (.I .i64))],[6,30,0,5,31]) .e) 511 ([],[6]) .e)) 4051 ([(8,.c (.I .i64))],[32,6,30,0,5,31]) (.n (.n (.n .e 4090 ([(12,.c (.I .i64)),(58,.c (.I .i64))],[8,11,5,6,56,57]) .e) 32723 ([(12,.c (.I .i64))],[58,8,11,5,6,56,57]) .e) 1047142 ([(12,.c (.I .i64)),(65,.c (.I .i64))],[6,13,5,11,8,58,56,57,64]) (.n (.n .e 8377139 ([(12,.c (.I .i64))],[65,6,13,5,11,8,58,56,57,64]) .e) 536136910 ([(12,.c (.I .i64))],[5,11,65,6,13,8,58,56,57,64]) .e))),.e⟩
theorem q75_eq (s0:Sl) (n1:Int) (K2:Sl→PT):fnE Cx h75 [.c .S] Tryd.f75 [.v (.slice s0.a s0.l s0.c),.v (.int .i64 n1)] K2=q75 s0 n1 K2:=by kernel_rfl
theorem q75_fnok:fnOk Tryd.f75 2=true:=by kernel_rfl
theorem q75_ok (s0:Sl) (n1:Int) (K2:Sl→PT) {w:World} (h:q75 s0 n1 K2 w):Calls Tryd.prog 75 #[(.slice s0.a s0.l s0.c),(.int .i64 n1)] w fun e w'=>∃r,e = .returned (resMk [.c .S] r)∧K2 r w' :=
 of_eq Tryd.func75 q75_fnok (by kernel_rfl) (by kernel_rfl) (q75_eq s0 n1 K2) h
def q76 (s0:Sl) (n1:Int) (K2:(Int×Bool)→PT):PT :=
 cnd (decide (n1<(0:Int))) (K2 ((0:Int),false)) (req ((8:Int)≠0)<|cnd (decide ((s0.l:Int)≤(quoI .i64 n1 (8:Int)))) (K2 ((0:Int),false)) (req ((8:Int)≠0)<|ixS 1 s0 (quoI .i64 n1 (8:Int)) fun (p3:Addr)=>ld (.I .u8) p3 fun (n4:Int)=>req ((8:Int)≠0)<|req (0≤(Int.tmod n1 (8:Int)))<|K2 ((andI .i64 (IntKind.wrap .i64 (shrI .u8 n4 (Int.tmod n1 (8:Int)))) (1:Int)),true)))
def h76:Hint:=⟨.e,.e⟩
theorem q76_eq (s0:Sl) (n1:Int) (K2:(Int×Bool)→PT):fnE Cx h76 [.c (.I .i64),.c .B] Tryd.f76 [.v (.slice s0.a s0.l s0.c),.v (.int .i64 n1)] K2=q76 s0 n1 K2:=by kernel_rfl
theorem q76_fnok:fnOk Tryd.f76 2=true:=by kernel_rfl
theorem q76_ok (s0:Sl) (n1:Int) (K2:(Int×Bool)→PT) {w:World} (h:q76 s0 n1 K2 w):Calls Tryd.prog 76 #[(.slice s0.a s0.l s0.c),(.int .i64 n1)] w fun e w'=>∃r,e = .returned (resMk [.c (.I .i64),.c .B] r)∧K2 r w' :=
 of_eq Tryd.func76 q76_fnok (by kernel_rfl) (by kernel_rfl) (q76_eq s0 n1 K2) h
def q77_L0 (x5:(Addr)) (R21:Unit→PT) (x22:Int) (A23:Int→PT):PT :=
 cnd (decide (x22<(256:Int))) (ixA 1 256 x5 x22 fun (p24:Addr)=>st p24 (.int .u32 (0:Int))<|A23 (IntKind.wrap .i64 (x22+(1:Int)))) (R21 ())
def q77_J1 (x5:(Addr)) (R18:Unit→PT) (x25:Unit):PT :=
 st (Addr.add x5 531) (.bool false)<|R18 ()
def q77_J2 (K2:(Option Addr×Value)→PT) (x5:(Addr)) (x30:Unit):PT :=
 K2 ((some x5),.nilIface)
def q77_J3 (s1:Sl) (K2:(Option Addr×Value)→PT) (x5:(Addr)) (x26:Unit):PT :=
 callP Tryd.prog 92 #[(.pointer (some (Addr.add x5 512))),(.slice s1.a s1.l s1.c)] [] fun (r27:Unit)=>joinP (fun R28=>ld (.I .i64) (Addr.add x5 527) fun (n29:Int)=>cnd (decide (n29=(0:Int))) (st (Addr.add x5 527) (.int .i64 (2147483647:Int))<|R28 ()) (R28 ())) (q77_J2 K2 x5)
def q77_J4 (s1:Sl) (K2:(Option Addr×Value)→PT) (x5:(Addr)) (x17:Unit):PT :=
 joinP (fun R18=>ld .B (Addr.add x5 531) fun (b19:Bool)=>cnd b19 (ld (.I .i64) (Addr.add x5 525) fun (n20:Int)=>cnd (decide (n20=(0:Int))) (joinP (fun R21=>loopP (0:Int) (q77_L0 x5 R21)) (q77_J1 x5 R18)) (R18 ())) (R18 ())) (q77_J3 s1 K2 x5)
def q77_J5 (s1:Sl) (K2:(Option Addr×Value)→PT) (x5:(Addr)) (x11:Unit):PT :=
 ld (.I .u8) (Addr.add x5 533) fun (n12:Int)=>cnd (decide ((12:Int)<n12)) (callP Tryd.prog 62 #[(.string ⟨#[116,97,98,108,101,76,111,103,32,62,32,109,97,120,84,97,98,108,101,76,111,103]⟩)] [.c .V] fun (r13:Value)=>K2 ((none:Option Addr),r13)) (joinP (fun R14=>ld .S (Addr.add x5 526) fun (s15:Sl)=>cnd (decide ((s15.c:Int)=(0:Int))) (mks z5 5 1 (0:Int) (s1.l:Int) fun (s16:Sl)=>st (Addr.add x5 526) (.slice s16.a s16.l s16.c)<|R14 ()) (R14 ())) (q77_J4 s1 K2 x5))
def q77_J6 (s1:Sl) (K2:(Option Addr×Value)→PT) (x5:(Addr)) (x8:Unit):PT :=
 joinP (fun R9=>ld (.I .u8) (Addr.add x5 533) fun (n10:Int)=>cnd (decide (n10=(0:Int))) (st (Addr.add x5 533) (.int .u8 (11:Int))<|R9 ()) (R9 ())) (q77_J5 s1 K2 x5)
def q77_J7 (s1:Sl) (K2:(Option Addr×Value)→PT) (x5:Addr):PT :=
 joinP (fun R6=>ld (.I .u8) (Addr.add x5 532) fun (n7:Int)=>cnd (decide (n7=(0:Int))) (st (Addr.add x5 532) (.int .u8 (255:Int))<|R6 ()) (R6 ())) (q77_J6 s1 K2 x5)
def q77 (p0:Addr) (s1:Sl) (K2:(Option Addr×Value)→PT):PT :=
 joinP (fun R3=>cnd (Option.isNone (some p0)) (nwA ⟨z134⟩ 134 fun (p4:Addr)=>R3 p4) (R3 p0)) (q77_J7 s1 K2)
def h77:Hint:=⟨(.n (.n (.n (.n .e 3 ([(0,.q)],[1]) .e) 7 ([],[1,0]) .e) 15 ([],[1,0]) (.n .e 63 ([],[0,1]) .e)) 127 ([],[1,0]) (.n (.n .e 511 ([],[0]) .e) 1018 ([],[1,0]) (.n .e 8146 ([(56,.c (.I .i64))],[0,1]) .e))),.e⟩
theorem q77_eq (p0:Addr) (s1:Sl) (K2:(Option Addr×Value)→PT):fnE Cx h77 [.c .P,.c .V] Tryd.f77 [.pt p0,.v (.slice s1.a s1.l s1.c)] K2=q77 p0 s1 K2:=by kernel_rfl
theorem q77_fnok:fnOk Tryd.f77 2=true:=by kernel_rfl
theorem q77_ok (p0:Addr) (s1:Sl) (K2:(Option Addr×Value)→PT) {w:World} (h:q77 p0 s1 K2 w):Calls Tryd.prog 77 #[(.pointer (some p0)),(.slice s1.a s1.l s1.c)] w fun e w'=>∃r,e = .returned (resMk [.c .P,.c .V] r)∧K2 r w' :=
 of_eq Tryd.func77 q77_fnok (by kernel_rfl) (by kernel_rfl) (q77_eq p0 s1 K2) h
def q81_J0 (K1:Int→PT) (x5:Int×Int):PT :=
 ixStr ⟨#[0,1,2,2,3,3,3,3,4,4,4,4,4,4,4,4,5,5,5,5,5,5,5,5,5,5,5,5,5,5,5,5,6,6,6,6,6,6,6,6,6,6,6,6,6,6,6,6,6,6,6,6,6,6,6,6,6,6,6,6,6,6,6,6,7,7,7,7,7,7,7,7,7,7,7,7,7,7,7,7,7,7,7,7,7,7,7,7,7,7,7,7,7,7,7,7,7,7,7,7,7,7,7,7,7,7,7,7,7,7,7,7,7,7,7,7,7,7,7,7,7,7,7,7,7,7,7,7,8,8,8,8,8,8,8,8,8,8,8,8,8,8,8,8,8,8,8,8,8,8,8,8,8,8,8,8,8,8,8,8,8,8,8,8,8,8,8,8,8,8,8,8,8,8,8,8,8,8,8,8,8,8,8,8,8,8,8,8,8,8,8,8,8,8,8,8,8,8,8,8,8,8,8,8,8,8,8,8,8,8,8,8,8,8,8,8,8,8,8,8,8,8,8,8,8,8,8,8,8,8,8,8,8,8,8,8,8,8,8,8,8,8,8,8,8,8,8,8,8,8,8,8,8,8,8,8]⟩ (IntKind.wrap .u8 x5.1) fun (n6:Int)=>K1 (IntKind.wrap .i64 (x5.2+(IntKind.wrap .i64 n6)))
def q81_J1 (K1:Int→PT) (x3:Int×Int):PT :=
 joinP (fun R4=>cnd (decide ((256:Int)≤x3.1)) (req (0≤(8:Int))<|R4 ((shrI .u32 x3.1 (8:Int)),(IntKind.wrap .i64 (x3.2+(8:Int))))) (R4 (x3.1,x3.2))) (q81_J0 K1)
def q81 (n0:Int) (K1:Int→PT):PT :=
 joinP (fun R2=>cnd (decide ((65536:Int)≤n0)) (req (0≤(16:Int))<|R2 ((shrI .u32 n0 (16:Int)),(16:Int))) (R2 (n0,(0:Int)))) (q81_J1 K1)
def h81:Hint:=⟨(.n (.n .e 3 ([(0,.c (.I .u32)),(2,.c (.I .i64))],[]) .e) 7 ([(0,.c (.I .u32)),(2,.c (.I .i64))],[]) .e),.e⟩
theorem q81_eq (n0:Int) (K1:Int→PT):fnE Cx h81 [.c (.I .i64)] Tryd.f81 [.v (.int .u32 n0)] K1=q81 n0 K1:=by kernel_rfl
theorem q81_fnok:fnOk Tryd.f81 1=true:=by kernel_rfl
theorem q81_ok (n0:Int) (K1:Int→PT) {w:World} (h:q81 n0 K1 w):Calls Tryd.prog 81 #[(.int .u32 n0)] w fun e w'=>∃r,e = .returned (resMk [.c (.I .i64)] r)∧K1 r w' :=
 of_eq Tryd.func81 q81_fnok (by kernel_rfl) (by kernel_rfl) (q81_eq n0 K1) h
end Go.Sx
