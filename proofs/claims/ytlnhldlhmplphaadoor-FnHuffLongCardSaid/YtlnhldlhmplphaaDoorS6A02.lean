/- Lemmas for the proof: C9 T M V N P00 P01 P02 P03 P04 W1. No conditions. -/
import Derived.Test.YtlnhldlhmplphaaDoorS6A01
set_option linter.unusedVariables false
set_option linter.unusedSimpArgs false
namespace Go.Sx
open Go
def cellB:Value→Value→Bool
 | .int k n,.int k' n'=>IntKind.same k k'&&decide (n=n')
 | .bool a,.bool b=>match a,b with
  | true,true=>true
  | false,false=>true
  | _,_=>false
 | .slice none l c,.slice none l' c'=>Nat.beq l l'&&Nat.beq c c'
 | .pointer none,.pointer none=>true
 | .nilIface,.nilIface=>true
 | .nilFunc,.nilFunc=>true
 | .string a,.string b=>a.data.toList.isEmpty&&b.data.toList.isEmpty
 | _,_=>false
def cellsB:List Value→List Value→Bool
 | [],[]=>true
 | a::r,b::s=>cellB a b&&cellsB r s
 | _,_=>false
theorem cellB_eq {a b:Value} (h:cellB a b=true):a=b:=by
 cases a<;>cases b<;>first|(simp [cellB] at h;done)|skip
 case bool.bool a b=>cases a<;>cases b<;>first|rfl|(simp [cellB] at h;done)
 case int.int =>
  simp only [cellB,Bool.and_eq_true,decide_eq_true_eq] at h
  rw [same_eq h.1,h.2]
 case string.string a b =>
  simp only [cellB,Bool.and_eq_true,List.isEmpty_iff] at h
  obtain ⟨⟨a⟩⟩:=a
  obtain ⟨⟨b⟩⟩:=b
  simp only at h
  rw [h.1,h.2]
 case pointer.pointer a b=>cases a<;>cases b<;>first|rfl|(simp [cellB] at h;done)
 case slice.slice a l c b l' c' =>
  cases a<;>cases b<;>first|(simp [cellB] at h;done)|skip
  simp only [cellB,Bool.and_eq_true] at h
  rw [Nat.eq_of_beq_eq_true h.1,Nat.eq_of_beq_eq_true h.2]
 all_goals rfl
theorem cellsB_eq:∀ {a b:List Value},cellsB a b=true→a=b
 | [],[],_=>rfl
 | x::r,y::s,h=>by
  simp only [cellsB,Bool.and_eq_true] at h
  rw [cellB_eq h.1,cellsB_eq h.2]
 | [],_::_,h=>by cases h
 | _::_,[],h=>by cases h
def aggD:TypeDesc→Bool
 | .struct _=>true
 | .array _ _=>true
 | _=>false
def fieldsB (P:Program):List Field→List (Nat×Nat×Bool)→Bool
 | [],[]=>true
 | f::r,(o,z,g)::s=>Nat.beq f.offset o&&(match P.info? f.type,P.underlying f.type with
   | some i,some d=>Nat.beq i.size z&&(match aggD d,g with
    | true,true=>true
    | false,false=>Nat.beq z 1
    | _,_=>false)
   | _,_=>false)&&fieldsB P r s
 | _,_=>false
def tyB (P:Program) (t:TypeId) (y:TyI):Bool :=
 match P.info? t,P.underlying t with
 | some i,some d =>
  Nat.beq i.size y.size&&Nat.beq i.bytes y.bytes &&
  (match y.zero with
   | none=>true
   | some zs=>match i.zero with
    | some v=>cellsB v.cells.toList zs&&Nat.beq zs.length y.size
    | none=>false) &&
  (match y.tg with
   | .c g=>Nat.beq y.size 1&&(match g with
    | .I k=>match d with
     | .int k'=>IntKind.same k' k
     | _=>false
    | _ => !aggD d)
   | .m ts=>aggD d&&Nat.beq ts.length y.size
   | .a n=>aggD d&&Nat.beq n y.size
   | .q=>false) &&
  (match y.k with
   | .other=>true
   | .bl=>match d with
    | .bool=>true
    | _=>false
   | .str=>match d with
    | .string=>true
    | _=>false
   | .ptr e=>match d with
    | .pointer e'=>Nat.beq e' e
    | _=>false
   | .ifc=>match d with
    | .interface _=>true
    | _=>false
   | .sl e=>match d with
    | .slice e'=>Nat.beq e' e
    | _=>false
   | .arr n e=>match d with
    | .array n' e'=>Nat.beq n' n&&Nat.beq e' e
    | _=>false
   | .st fs=>match d with
    | .struct fields=>fieldsB P fields.toList fs
    | _=>false)
 | _,_=>false
theorem fieldsB_ok {P:Program} : ∀ {fl:List Field} {fs:List (Nat×Nat×Bool)},fieldsB P fl fs=true→fs.length=fl.length ∧
  ∀(f o z:Nat) (g:Bool),fs[f]? = some (o,z,g)→∃fd i du,fl[f]? = some fd∧fd.offset=o∧P.info? fd.type=some i∧i.size=z ∧
   P.underlying fd.type=some du∧(match du with | .struct _ | .array _ _=>g=true|_=>g=false∧z=1)
 | [],[],_=>⟨rfl,fun f o z g h=>by simp at h⟩
 | [],_::_,h=>by cases h
 | _::_,[],h=>by cases h
 | fd::fl,(o,z,g)::fs,h=>by
  simp only [fieldsB,Bool.and_eq_true] at h
  obtain ⟨⟨h1,h2⟩,h3⟩:=h
  obtain ⟨h4,h5⟩:=fieldsB_ok h3
  refine ⟨by simp [h4],fun f o' z' g' hf => ?_⟩
  cases f with
  | succ f=>exact h5 f o' z' g' (by simpa using hf)
  | zero =>
   simp only [List.getElem?_cons_zero,Option.some.injEq,Prod.mk.injEq] at hf
   obtain ⟨rfl,rfl,rfl⟩:=hf
   cases hi:P.info? fd.type with
   | none=>simp [hi] at h2
   | some i =>
    cases hd:P.underlying fd.type with
    | none=>simp [hi,hd] at h2
    | some d =>
     simp only [hi,hd,Bool.and_eq_true] at h2
     refine ⟨fd,i,d,rfl,Nat.eq_of_beq_eq_true h1,hi,Nat.eq_of_beq_eq_true h2.1,hd,?_⟩
     have h6:=h2.2
     cases g
     ·cases d<;>first|(exact ⟨rfl,Nat.eq_of_beq_eq_true h6⟩)|(simp [aggD] at h6)
     ·cases d<;>first|rfl|(simp [aggD] at h6)
theorem tyB_ok {P:Program} {t:TypeId} {y:TyI} (h:tyB P t y=true):TyOk P t y:=by
 unfold tyB at h
 cases hi:P.info? t with
 | none=>rw [hi] at h;simp at h
 | some i =>
  cases hd:P.underlying t with
  | none=>rw [hi,hd] at h;simp at h
  | some d =>
   rw [hi,hd] at h
   simp only [Bool.and_eq_true] at h
   obtain ⟨⟨⟨⟨h1,h2⟩,h3⟩,h4⟩,h5⟩:=h
   refine ⟨fun g hg => ?_,⟨i,hi,Nat.eq_of_beq_eq_true h1,Nat.eq_of_beq_eq_true h2,fun zs hz => ?_⟩,d,hd,?_,?_⟩
   ·rw [hg] at h4
    simp only [Bool.and_eq_true] at h4
    exact Nat.eq_of_beq_eq_true h4.1
   ·rw [hz] at h3
    cases hv:i.zero with
    | none=>simp [hv] at h3
    | some v =>
     simp only [hv,Bool.and_eq_true] at h3
     exact ⟨v,rfl,by rw [←cellsB_eq h3.1],Nat.eq_of_beq_eq_true h3.2⟩
   ·cases hg:y.tg with
    | c g =>
     rw [hg] at h4
     simp only [Bool.and_eq_true] at h4
     have h6:=h4.2
     cases g with
     | I k =>
      cases d<;>first|(simp at h6;done)|skip
      exact congrArg TypeDesc.int (same_eq h6)
     | _=>cases d<;>first|trivial|(simp [aggD] at h6)
    | m ts =>
     rw [hg] at h4
     simp only [Bool.and_eq_true] at h4
     refine ⟨?_,Nat.eq_of_beq_eq_true h4.2⟩
     have h6:=h4.1
     cases d<;>first|trivial|(simp [aggD] at h6)
    | a n =>
     rw [hg] at h4
     simp only [Bool.and_eq_true] at h4
     refine ⟨?_,Nat.eq_of_beq_eq_true h4.2⟩
     have h6:=h4.1
     cases d<;>first|trivial|(simp [aggD] at h6)
    | q=>rw [hg] at h4;simp at h4
   ·cases hk:y.k<;>rw [hk] at h5
    case other=>trivial
    case bl=>cases d<;>first|rfl|(simp at h5;done)
    case str=>cases d<;>first|rfl|(simp at h5;done)
    case ptr e=>cases d<;>first|(exact congrArg TypeDesc.pointer (Nat.eq_of_beq_eq_true h5))|(simp at h5;done)
    case ifc=>cases d<;>first|exact ⟨_,rfl⟩|(simp at h5;done)
    case sl e=>cases d<;>first|(exact congrArg TypeDesc.slice (Nat.eq_of_beq_eq_true h5))|(simp at h5;done)
    case arr n e =>
     cases d<;>first|(simp at h5;done)|skip
     simp only [Bool.and_eq_true] at h5
     rw [Nat.eq_of_beq_eq_true h5.1,Nat.eq_of_beq_eq_true h5.2]
    case st fs =>
     cases d<;>first|(simp at h5;done)|skip
     rename_i fields
     obtain ⟨h6,h7⟩:=fieldsB_ok h5
     refine ⟨fields,rfl,by simpa using h6,fun f o z g hf => ?_⟩
     obtain ⟨fd,i,du,e1,e2⟩:=h7 f o z g hf
     exact ⟨fd,i,du,by simpa using e1,e2⟩
def Tr.all {α:Type} (p:Nat→α→Bool):Tr α→Bool
 | .e=>true
 | .n l k v r=>l.all p&&(p k v&&r.all p)
theorem Tr.all_get {α:Type} {p:Nat→α→Bool} : ∀ {T:Tr α} {k:Nat} {v:α},T.all p=true→T.get k=some v→p k v=true
 | .e,_,_,_,h=>by cases h
 | .n l k' v' r,k,v,h,hg=>by
  simp only [Tr.all,Bool.and_eq_true] at h
  simp only [Tr.get] at hg
  cases h1:Nat.blt k k' with
  | true=>rw [h1] at hg;exact Tr.all_get h.1 hg
  | false =>
   rw [h1] at hg
   simp only [cond_false] at hg
   cases h2:Nat.blt k' k with
   | true=>rw [h2] at hg;exact Tr.all_get h.2.2 hg
   | false =>
    rw [h2] at hg
    simp only [cond_false,Option.some.injEq] at hg
    have h3:¬k<k':=fun hh=>by have:=Nat.blt_eq.mpr hh;rw [h1] at this;cases this
    have h4:¬k'<k:=fun hh=>by have:=Nat.blt_eq.mpr hh;rw [h2] at this;cases this
    have:k'=k:=by omega
    subst this
    subst hg
    exact h.2.1
theorem good_of {C:Ctx} (h1:C.T.all (tyB C.P)=true) (h2:C.R.all (fun f _=>hasFn C.P f)=true) (h3:C.P.follows .mixedOrders=true):Good C :=
 ⟨fun _ _ h=>tyB_ok (Tr.all_get h1 h),fun _ _ h=>Tr.all_get h2 h,h3⟩
end Go.Sx
namespace Go.Sx
open Go Go.Proofs
set_option maxRecDepth 100000
def z3:List Value := [(.int .i64 (0))]
def z4:List Value := [(.bool false)]
def z5:List Value := [(.int .u8 (0))]
def z22:List Value := [(.slice none 0 0)]
def z24:List Value := [(.slice none 0 0)]
def z74:List Value:=List.replicate 256 (.bool false)
def z79:List Value := [(.int .u32 (0))]
def z80:List Value:=List.replicate 256 (.int .u32 (0))
def z81:List Value := [(.int .u16 (0))]
def z94:List Value:=List.replicate 256 (.int .u32 (0))++(List.replicate 3 (.slice none 0 0)++(List.replicate 2 (.int .i64 (0))++(List.replicate 4 (.int .u8 (0))++([(.int .u16 (0))]++([(.int .i64 (0))]++([(.bool false)]++(List.replicate 2 (.int .u8 (0))++(List.replicate 8 (.slice none 0 0)++([(.pointer none)]++(List.replicate 256 (.int .u8 (0))))))))))))
def z109:List Value := [(.int .i64 (0)),(.int .i64 (0))]
def z113:List Value := [(.int .i64 (0)),(.int .i64 (0)),(.int .i64 (0))]
def z115:List Value := [(.slice none 0 0),(.int .i64 (0))]
def z134:List Value:=List.replicate 256 (.int .u32 (0))++(List.replicate 256 (.int .i16 (0))++([(.slice none 0 0)]++([(.int .i64 (0))]++([(.slice none 0 0)]++(List.replicate 2 (.int .u64 (0))++([(.int .u8 (0))]++([(.int .u64 (0))]++([(.int .u8 (0))]++(List.replicate 5 (.slice none 0 0)++([(.int .i64 (0))]++([(.slice none 0 0)]++([(.int .i64 (0))]++([(.int .u16 (0))]++([(.int .u8 (0))]++(List.replicate 2 (.bool false)++(List.replicate 2 (.int .u8 (0))))))))))))))))))
def z136:List Value:=List.replicate 16 (.int .u32 (0))
def z137:List Value:=List.replicate 64 (.int .u32 (0))
def z140:List Value := [(.int .u16 (0)),(.int .u8 (0))]
def z142:List Value := [(.int .u16 (0))]
def z148:List Value := [(.slice none 0 0),(.int .i64 (0)),(.bool false),(.slice none 0 0)]
def z155:List Value := [(.int .i64 (0)),(.int .i64 (0)),(.int .i64 (0))]
def z162:List Value := [(.string ⟨#[]⟩)]
def z167:List Value:=List.replicate 12 (.int .u8 (0))
def z180:List Value := [(.int .u16 (0)),(.int .u8 (0)),(.int .u8 (0))]
def z185:List Value := [(.int .u16 (0)),(.pointer none),(.slice none 0 0)]
def z196:List Value := [(.int .u64 (0))]
def z202:List Value:=List.replicate 12 (.int .u16 (0))
def z203:List Value:=List.replicate 16 (.int .u16 (0))
def z208:List Value:=List.replicate 257 (.int .i16 (0))
def z210:List Value := [(.int .i32 (0)),(.int .u32 (0))]
def z213:List Value := [(.pointer none),(.slice none 0 0),(.int .u16 (0))]
def z219:List Value := [(.int .u64 (0)),(.int .u8 (0)),(.slice none 0 0)]
def z222:List Value := [(.int .u64 (0)),(.int .u64 (0)),(.int .i64 (0))]
def z229:List Value:=List.replicate 64 (.int .u32 (0))
def z233:List Value:=List.replicate 13 (.int .u32 (0))
def TT:Tr TyI:=(.n (.n (.n (.n (.n (.n (.n .e 3 (⟨.c (.I .i64),.other,1,8,some z3⟩) .e) 4 (⟨.c .B,.bl,1,1,some z4⟩) .e) 5 (⟨.c (.I .u8),.other,1,1,some z5⟩) (.n .e 9 (⟨.c .V,.str,1,16,none⟩) .e)) 21 (⟨.c (.I .i32),.other,1,4,none⟩) (.n (.n (.n .e 22 (⟨.c .S,.sl 5,1,24,some z22⟩) .e) 24 (⟨.c .S,.sl 3,1,24,some z24⟩) .e) 44 (⟨.c .S,.sl 79,1,24,none⟩) (.n .e 49 (⟨.c .S,.sl 22,1,24,none⟩) .e))) 52 (⟨.c .S,.sl 4,1,24,none⟩) (.n (.n (.n (.n .e 66 (⟨.c .P,.ptr 94,1,8,none⟩) .e) 68 (⟨.c .V,.ifc,1,16,none⟩) .e) 72 (⟨.c .V,.other,1,8,none⟩) (.n .e 74 (⟨.a 256,.arr 256 4,256,256,some z74⟩) .e)) 75 (⟨.c (.I .u64),.other,1,8,none⟩) (.n (.n (.n .e 78 (⟨.c (.I .u8),.other,1,1,none⟩) .e) 79 (⟨.c (.I .u32),.other,1,4,some z79⟩) .e) 80 (⟨.a 256,.arr 256 79,256,1024,some z80⟩) (.n .e 81 (⟨.c (.I .u16),.other,1,2,some z81⟩) .e)))) 82 (⟨.c .S,.sl 140,1,24,none⟩) (.n (.n (.n (.n (.n .e 83 (⟨.c .S,.sl 140,1,24,none⟩) .e) 84 (⟨.c .S,.sl 142,1,24,none⟩) .e) 86 (⟨.m [.S],.st [(0,1,false)],1,24,none⟩) (.n .e 87 (⟨.c .S,.sl 196,1,24,none⟩) .e)) 89 (⟨.c .P,.ptr 134,1,8,none⟩) (.n (.n (.n .e 92 (⟨.a 256,.arr 256 5,256,256,none⟩) .e) 94 (⟨.a 535,.st [(0,256,true),(256,1,false),(257,1,false),(258,1,false),(259,1,false),(260,1,false),(261,1,false),(262,1,false),(263,1,false),(264,1,false),(265,1,false),(266,1,false),(267,1,false),(268,1,false),(269,1,false),(270,1,false),(271,1,false),(272,1,true),(273,1,false),(274,4,true),(278,1,false),(279,0,true),(279,256,true)],535,1592,some z94⟩) .e) 99 (⟨.c .S,.sl 24,1,24,none⟩) (.n .e 105 (⟨.c .S,.sl 113,1,24,none⟩) .e))) 108 (⟨.c .P,.ptr 115,1,8,none⟩) (.n (.n (.n (.n .e 109 (⟨.m [(.I .i64),(.I .i64)],.arr 2 3,2,16,some z109⟩) .e) 113 (⟨.m [(.I .i64),(.I .i64),(.I .i64)],.st [(0,1,false),(1,1,false),(2,1,false)],3,24,some z113⟩) .e) 115 (⟨.m [.S,(.I .i64)],.st [(0,1,false),(1,1,false)],2,32,some z115⟩) (.n .e 119 (⟨.c (.I .i16),.other,1,2,none⟩) .e)) 120 (⟨.a 256,.arr 256 119,256,512,none⟩) (.n (.n (.n .e 122 (⟨.m [.S,(.I .i64)],.st [(0,1,false),(1,1,false)],2,32,none⟩) .e) 123 (⟨.c (.I .u64),.other,1,8,none⟩) .e) 125 (⟨.m [.S,(.I .u64),(.I .u64),(.I .u8)],.st [(0,1,false),(1,1,false),(2,1,false),(3,1,false)],4,48,none⟩) (.n .e 127 (⟨.m [(.I .u64),(.I .u8),.S],.st [(0,1,false),(1,1,false),(2,1,false)],3,40,none⟩) .e))))) 128 (⟨.c .S,.sl 81,1,24,none⟩) (.n (.n (.n (.n (.n (.n .e 129 (⟨.c .S,.sl 210,1,24,none⟩) .e) 131 (⟨.m [.S,.S,.S],.st [(0,1,false),(1,1,false),(2,1,false)],3,72,none⟩) .e) 132 (⟨.c .S,.sl 180,1,24,none⟩) (.n .e 134 (⟨.a 534,.st [(0,256,true),(256,256,true),(512,2,true),(514,4,true),(518,3,true),(521,3,true),(524,1,false),(525,1,false),(526,1,false),(527,1,false),(528,1,false),(529,1,false),(530,1,false),(531,1,false),(532,1,false),(533,1,false)],534,1800,some z134⟩) .e)) 136 (⟨.a 16,.arr 16 79,16,64,some z136⟩) (.n (.n (.n .e 137 (⟨.a 64,.arr 4 136,64,256,some z137⟩) .e) 140 (⟨.m [(.I .u16),(.I .u8)],.st [(0,1,false),(1,1,false)],2,4,some z140⟩) .e) 142 (⟨.m [(.I .u16)],.st [(0,1,false)],1,2,some z142⟩) (.n .e 146 (⟨.c .P,.ptr 148,1,8,none⟩) .e))) 148 (⟨.m [.S,(.I .i64),.B,.S],.st [(0,1,false),(1,1,false),(2,1,false),(3,1,false)],4,64,some z148⟩) (.n (.n (.n (.n .e 152 (⟨.c .S,.sl 155,1,24,none⟩) .e) 155 (⟨.m [(.I .i64),(.I .i64),(.I .i64)],.st [(0,1,false),(1,1,false),(2,1,false)],3,24,some z155⟩) .e) 157 (⟨.c .P,.ptr 80,1,8,none⟩) (.n .e 160 (⟨.c .P,.ptr 162,1,8,none⟩) .e)) 162 (⟨.m [.V],.st [(0,1,false)],1,16,some z162⟩) (.n (.n (.n .e 167 (⟨.a 12,.arr 12 5,12,12,some z167⟩) .e) 174 (⟨.c .P,.ptr 122,1,8,none⟩) .e) 178 (⟨.c .S,.sl 119,1,24,none⟩) (.n .e 180 (⟨.m [(.I .u16),(.I .u8),(.I .u8)],.st [(0,1,false),(1,1,false),(2,1,false)],3,4,some z180⟩) .e)))) 181 (⟨.c .P,.ptr 125,1,8,none⟩) (.n (.n (.n (.n (.n .e 185 (⟨.m [(.I .u16),.P,.S],.st [(0,1,false),(1,1,false),(2,1,false)],3,40,some z185⟩) .e) 196 (⟨.c (.I .u64),.other,1,8,some z196⟩) .e) 202 (⟨.a 12,.arr 12 81,12,24,some z202⟩) (.n .e 203 (⟨.a 16,.arr 16 81,16,32,some z203⟩) .e)) 207 (⟨.m [(.I .u32),(.I .u32),(.I .u32),(.I .u32),(.I .u32),(.I .u32),(.I .u32),(.I .u32)],.arr 8 79,8,32,none⟩) (.n (.n (.n .e 208 (⟨.a 257,.arr 257 119,257,514,some z208⟩) .e) 210 (⟨.m [(.I .i32),(.I .u32)],.st [(0,1,false),(1,1,false)],2,8,some z210⟩) .e) 211 (⟨.c .P,.ptr 127,1,8,none⟩) (.n .e 213 (⟨.m [.P,.S,(.I .u16)],.st [(0,1,false),(1,1,false),(2,1,false)],3,40,some z213⟩) .e))) 215 (⟨.c .P,.ptr 131,1,8,none⟩) (.n (.n (.n (.n .e 219 (⟨.m [(.I .u64),(.I .u8),.S],.st [(0,1,false),(1,1,false),(2,1,false)],3,40,some z219⟩) .e) 222 (⟨.m [(.I .u64),(.I .u64),(.I .i64)],.st [(0,1,false),(1,1,false),(2,1,false)],3,24,some z222⟩) .e) 228 (⟨.m [(.I .u32),(.I .u32)],.st [(0,1,false),(1,1,false)],2,8,none⟩) (.n .e 229 (⟨.a 64,.arr 32 228,64,256,some z229⟩) .e)) 230 (⟨.c .S,.sl 228,1,24,none⟩) (.n (.n (.n .e 233 (⟨.a 13,.arr 13 79,13,52,some z233⟩) .e) 234 (⟨.m [],.st [],0,0,none⟩) .e) 238 (⟨.c .P,.ptr 219,1,8,none⟩) (.n .e 240 (⟨.a 32,.arr 32 81,32,64,none⟩) .e))))))
def RR:Tr (List Tg):=(.n (.n (.n (.n (.n (.n (.n (.n .e 3 [.c .B] .e) 4 [.c .B] .e) 5 [.c .B] (.n (.n .e 6 [.c .B] .e) 7 [.c .B] .e)) 8 [.c .B] (.n (.n (.n .e 9 [.c .B] .e) 10 [.c .B] .e) 11 [.c .B] (.n .e 12 [.c .B] .e))) 13 [.c .B] (.n (.n (.n (.n .e 14 [.c .B] .e) 15 [.c .S,.c (.I .i64),.c .B] .e) 16 [.c .S,.c .B] (.n .e 17 [.c .B] .e)) 18 [.c .S] (.n (.n (.n .e 19 [.c .S] .e) 20 [.c .S,.c .B] .e) 21 [.c .B] (.n .e 22 [.c .B] .e)))) 23 [.c .B] (.n (.n (.n (.n (.n .e 24 [.c .S,.c .S,.c .S,.c (.I .i64)] .e) 25 [.c .B] .e) 26 [.c .S,.c .B] (.n .e 27 [.c .B] .e)) 28 [.c (.I .i64)] (.n (.n (.n .e 29 [.c .B] .e) 30 [.c .S] .e) 31 [.c .S,.c .B] (.n .e 32 [.c .B] .e))) 33 [.c .B] (.n (.n (.n (.n .e 34 [.c (.I .i64)] .e) 35 [.c .S,.c .S,.c .S,.c .S] .e) 36 [.c .B] (.n .e 37 [.c .S,.c .S,.c .S,.c (.I .i64)] .e)) 38 [.c .S,.c (.I .i64)] (.n (.n (.n .e 39 [.c .S,.c (.I .i64)] .e) 40 [.c (.I .i64)] .e) 41 [.c .S,.c (.I .i64)] (.n .e 42 [.c .B] .e))))) 43 [.c .S,.c (.I .i64),.c .B] (.n (.n (.n (.n (.n (.n .e 44 [.c (.I .i64)] .e) 45 [.c .P,.c .S,.c .V] .e) 46 [.c .S,.c .V] (.n (.n .e 47 [.c .S] .e) 48 [.c .S,.c .B] .e)) 49 [.c .S,.c (.I .i64),.c .S,.c .B] (.n (.n (.n .e 50 [.c .S,.c .B,.c .V] .e) 51 [.c (.I .i64)] .e) 52 [.c .S,.c .B] (.n .e 53 [.c .S] .e))) 54 [.c .S] (.n (.n (.n (.n .e 55 [] .e) 56 [.c .P,.c .V] .e) 57 [.c .S,.c .B] (.n .e 58 [.c .P,.m [(.I .i64),(.I .i64)],.c .B] .e)) 59 [.c (.I .i64)] (.n (.n (.n .e 60 [.c .S,.c .B] .e) 61 [.c .P,.c .V] .e) 62 [.c .V] (.n .e 63 [.c .S,.c .V] .e)))) 64 [.c (.I .u32)] (.n (.n (.n (.n (.n .e 65 [.c .V] .e) 66 [.c .S,.c .B] .e) 67 [.c (.I .i64)] (.n .e 68 [.c (.I .i64)] .e)) 69 [] (.n (.n (.n .e 70 [.c .S,.c .B,.c .V] .e) 71 [.c .S,.c .B,.c .V] .e) 72 [.c .P,.c .B] (.n .e 73 [.c .S] .e))) 74 [.c .V] (.n (.n (.n (.n .e 75 [.c .S] .e) 76 [.c (.I .i64),.c .B] .e) 77 [.c .P,.c .V] (.n .e 78 [.c .V] .e)) 79 [.c .V] (.n (.n (.n .e 80 [.c .V] .e) 81 [.c (.I .i64)] .e) 82 [.c .S] (.n .e 83 [] .e)))))) 84 [.c .S,.c .V] (.n (.n (.n (.n (.n (.n (.n .e 85 [.c .S,.c .B] .e) 86 [.c .S,.c .B] .e) 87 [.c (.I .i64),.c .B] (.n (.n .e 88 [.c .S,.c .B,.c .V] .e) 89 [.c .S,.c .V] .e)) 90 [.c .S,.c .V] (.n (.n (.n .e 91 [.c .V] .e) 92 [] .e) 93 [.c (.I .i64)] (.n .e 94 [.c (.I .u32)] .e))) 95 [] (.n (.n (.n (.n .e 96 [] .e) 97 [.c (.I .u32)] .e) 98 [.c (.I .u32)] (.n .e 99 [.c .V] .e)) 100 [.c .S] (.n (.n (.n .e 101 [] .e) 102 [] .e) 103 [.c (.I .u8)] (.n .e 104 [.c (.I .u8)] .e)))) 105 [.c .B] (.n (.n (.n (.n (.n .e 106 [.c (.I .u8)] .e) 107 [] .e) 108 [.c .V] (.n .e 109 [.c (.I .i64)] .e)) 110 [] (.n (.n (.n .e 111 [.c .V] .e) 112 [.c .V] .e) 113 [.c .V] (.n .e 114 [.c .V] .e))) 115 [.c .S,.c .B] (.n (.n (.n (.n .e 116 [.c .S] .e) 117 [.c (.I .i64),.c .B] .e) 118 [.c .B] (.n .e 119 [.c (.I .i64)] .e)) 120 [.c .S] (.n (.n (.n .e 121 [] .e) 122 [] .e) 123 [.c (.I .u32)] (.n .e 124 [] .e))))) 125 [] (.n (.n (.n (.n (.n (.n .e 126 [] .e) 127 [.c (.I .u16)] .e) 128 [.c (.I .u8)] (.n .e 129 [.c (.I .u8)] .e)) 130 [.c (.I .u8)] (.n (.n (.n .e 131 [] .e) 132 [.c (.I .u16)] .e) 133 [.c (.I .u16)] (.n .e 134 [.c .B] .e))) 135 [.c (.I .u8)] (.n (.n (.n (.n .e 136 [.c .V] .e) 137 [] .e) 138 [] (.n .e 139 [] .e)) 140 [] (.n (.n (.n .e 141 [] .e) 142 [] .e) 143 [] (.n .e 144 [] .e)))) 145 [.c .B] (.n (.n (.n (.n (.n .e 146 [.c .S] .e) 147 [] .e) 148 [.c .S] (.n .e 149 [.m [(.I .u64),(.I .u64),(.I .i64)]] .e)) 150 [.m [(.I .u64),(.I .u64),(.I .i64)]] (.n (.n (.n .e 151 [.c (.I .u64),.c (.I .u64)] .e) 152 [] .e) 153 [.c (.I .u8)] (.n .e 154 [.c (.I .u64)] .e))) 155 [.c (.I .u64)] (.n (.n (.n (.n .e 156 [] .e) 157 [] .e) 158 [] (.n .e 159 [] .e)) 160 [] (.n (.n (.n .e 161 [] .e) 162 [] .e) 163 [] (.n .e 164 [] .e)))))))
noncomputable def Cx:Ctx:=⟨Tryd.prog,TT,RR⟩
theorem good:Good Cx:=good_of (by kernel_rfl) (by kernel_rfl) (by kernel_rfl)
theorem of_eq {f:FuncId} {fn:Func} {H:Hint} {gs:List Tg} {es:List Ent} {n:Nat} {args:Array Value} {κ:resT gs→PT} {q:PT} {w:World} (hf:Tryd.prog.funcs[f]? = some fn)
  (hok:fnOk fn n=true) (hn:es.length=n) (ha:(es.map Ent.val).toArray=args) (hq:fnE Cx H gs fn es κ=q) (h:q w) :
  Calls Tryd.prog f args w fun e w'=>∃r,e = .returned (resMk gs r)∧κ r w':=by
 subst hn ha
 rw [←hq] at h
 exact fn_calls good hf hok h
end Go.Sx
namespace Go.Sx
open Go Go.IntWalk
abbrev Cells:=Nat→Option Value
structure Blk (w:World) (b:Nat) (f:Cells):Prop where
 cell:∀i,w.cell? ⟨b,i,none⟩=f i
 froz:∀i,w.frozen? ⟨b,i,none⟩=false
 lt:b<w.heap.size
def updC (f:Cells) (o:Nat) (v:Value):Cells:=fun i=>if i=o then some v else f i
theorem add_mk (b o n:Nat):Addr.add ⟨b,o,none⟩ n=⟨b,o+n,none⟩:=by
 unfold Addr.add
 split
 ·subst_vars;rfl
 ·rfl
theorem heap_setCell_ne {w:World} {a:Addr} {v:Value} {b:Nat} (h:b≠a.block):(w.setCell a v).heap[b]? = w.heap[b]? := by
 unfold World.setCell
 simp only [Array.getElem?_modify]
 rw [if_neg (fun e=>h e.symm)]
theorem cell?_of_heap {w w':World} {b:Nat} (h:w'.heap[b]? = w.heap[b]?) (i:Nat) (s:Option Nat):w'.cell? ⟨b,i,s⟩=w.cell? ⟨b,i,s⟩:=by
 unfold World.cell?
 simp only [h]
theorem frozen?_of_heap {w w':World} {b:Nat} (h:w'.heap[b]? = w.heap[b]?) (i:Nat) (s:Option Nat):w'.frozen? ⟨b,i,s⟩=w.frozen? ⟨b,i,s⟩:=by
 unfold World.frozen?
 simp only [h]
structure Fm (w w':World) (S:List Nat):Prop where
 os:w'.os=w.os
 tape:w'.tape=w.tape
 out:w'.output=w.output
 size:w.heap.size≤w'.heap.size
 old:∀b,b<w.heap.size→b∉S→w'.heap[b]? = w.heap[b]?
theorem Fm.refl (w:World) (S:List Nat):Fm w w S:=⟨rfl,rfl,rfl,Nat.le_refl _,fun _ _ _=>rfl⟩
theorem Fm.drew {w w':World} {S:List Nat} (h:Fm w w' S):Fm w w'.drew S:=⟨h.os,h.tape,h.out,h.size,h.old⟩
theorem Fm.alloc {w w':World} {S:List Nat} {o:Obj} (h:Fm w w' S):Fm w (w'.alloc o) S:=by
 refine ⟨h.os,h.tape,h.out,?_,?_⟩
 ·have:=h.size;rw [World.size_alloc];omega
 ·intro b hb hS
  rw [←h.old b hb hS]
  show (w'.heap.push o)[b]? = _
  have:=h.size
  rw [Array.getElem?_push_lt (by omega),Array.getElem?_eq_getElem (by omega)]
theorem Fm.set {w w':World} {S:List Nat} {a:Addr} {v:Value} (h:Fm w w' S) (ha:a.block∈S∨w.heap.size≤a.block):Fm w (w'.setCell a v) S:=by
 refine ⟨h.os,h.tape,h.out,?_,?_⟩
 ·rw [World.size_setCell];exact h.size
 ·intro b hb hS
  rw [←h.old b hb hS]
  apply heap_setCell_ne
  intro e
  subst e
  rcases ha with ha|ha
  ·exact hS ha
  ·omega
theorem Fm.trans {w0 w1 w2:World} {S S':List Nat} (h:Fm w0 w1 S) (h':Fm w1 w2 S') (hs:∀b∈S',b∈S∨w0.heap.size≤b):Fm w0 w2 S:=by
 refine ⟨h'.os.trans h.os,h'.tape.trans h.tape,h'.out.trans h.out,Nat.le_trans h.size h'.size,?_⟩
 intro b hb hS
 have h1:=h.size
 rw [h'.old b (by omega) (fun e=>(hs b e).elim hS (fun e=>by omega)),h.old b hb hS]
theorem Fm.mono {w w':World} {S S':List Nat} (h:Fm w w' S) (hs:∀b∈S,b∈S'∨w.heap.size≤b):Fm w w' S' :=
 ⟨h.os,h.tape,h.out,h.size,fun b hb hS=>h.old b hb (fun e=>(hs b e).elim hS (fun e=>by omega))⟩
theorem Blk.fr {w w':World} {b:Nat} {f:Cells} {S:List Nat} (h:Blk w b f) (h':Fm w w' S) (hS:b∉S):Blk w' b f :=
 ⟨fun i=>(cell?_of_heap (h'.old b h.lt hS) i none).trans (h.cell i),fun i=>(frozen?_of_heap (h'.old b h.lt hS) i none).trans (h.froz i),Nat.lt_of_lt_of_le h.lt h'.size⟩
theorem Blk.drew {w:World} {b:Nat} {f:Cells} (h:Blk w b f):Blk w.drew b f:=⟨h.cell,h.froz,h.lt⟩
theorem Blk.alloc {w:World} {b:Nat} {f:Cells} {o:Obj} (h:Blk w b f):Blk (w.alloc o) b f:=h.fr ((Fm.refl w []).alloc) (by simp)
theorem Blk.other {w:World} {b:Nat} {f:Cells} {a:Addr} {v:Value} (h:Blk w b f) (hb:b≠a.block):Blk (w.setCell a v) b f :=
 h.fr ((Fm.refl w [a.block]).set (.inl (by simp))) (by simpa using hb)
theorem Blk.set {w:World} {b o:Nat} {f:Cells} {v:Value} (h:Blk w b f) (ho:(f o).isSome):Blk (w.setCell ⟨b,o,none⟩ v) b (updC f o v):=by
 refine ⟨?_,?_,?_⟩
 ·intro i
  unfold updC
  split
  ·subst_vars
   obtain ⟨u,hu⟩:=Option.isSome_iff_exists.mp ho
   exact World.cell?_setCell_same _ _ _ ((h.cell _).trans hu)
  ·rename_i hne
   rw [World.cell?_setCell_other _ _ _ _ (by intro e;injection e with _ e2 _;exact hne e2.symm)]
   exact h.cell i
 ·intro i
  rw [World.frozen?_setCell]
  exact h.froz i
 ·rw [World.size_setCell];exact h.lt
theorem Blk.new {w:World} {cs:Array Value} {T:TypeId} : Blk (w.alloc (.cells cs T)) w.heap.size fun i=>cs[i]? := by
 refine ⟨?_,?_,?_⟩
 ·intro i;simp
 ·intro i;simp
 ·rw [World.size_alloc];omega
theorem Blk.congr {w:World} {b:Nat} {f g:Cells} (h:Blk w b f) (e:f=g):Blk w b g:=e▸h
theorem ld_b {w:World} {b o:Nat} {f:Cells} {t:CT} {x:t.ty} {κ:t.ty→PT} (h:Blk w b f) (hx:f o=some (t.mk x)) (hk:κ x w):ld t ⟨b,o,none⟩ κ w:=⟨x,(h.cell o).trans hx,hk⟩
theorem canSt_b {w:World} {b o:Nat} {f:Cells} (h:Blk w b f) (hx:(f o).isSome):canSt w ⟨b,o,none⟩:=by
 obtain ⟨u,hu⟩:=Option.isSome_iff_exists.mp hx
 exact ⟨⟨u,(h.cell o).trans hu⟩,h.froz o⟩
theorem st_b {w:World} {b o:Nat} {f:Cells} {v:Value} {κ:PT} (h:Blk w b f) (hx:(f o).isSome) (hv:one v=true) (hk:κ (w.setCell ⟨b,o,none⟩ v)):st ⟨b,o,none⟩ v κ w :=
 ⟨hv,canSt_b h hx,hk⟩
theorem ixS_b {w:World} {sz b o k:Nat} {s:Sl} {i:Int} {κ:Addr→PT} (ha:s.a=some ⟨b,o,none⟩) (hi:i=k) (hk:k<s.l) (h:κ ⟨b,o+k*sz,none⟩ w):ixS sz s i κ w :=
 ⟨_,ha,k,hi,hk,by rw [add_mk];exact h⟩
theorem ixA_b {w:World} {sz n b o k:Nat} {i:Int} {κ:Addr→PT} (hi:i=k) (hk:k<n) (h:κ ⟨b,o+k*sz,none⟩ w):ixA sz n ⟨b,o,none⟩ i κ w :=
 ⟨k,hi,hk,by rw [add_mk];exact h⟩
theorem cnd_d {p:Prop} [Decidable p] {x y:PT} {w:World} (h1:p→x w) (h2:¬p→y w):cnd (decide p) x y w :=
 ⟨fun h=>h1 (of_decide_eq_true h),fun h=>h2 (of_decide_eq_false h)⟩
theorem cnd_nd {p:Prop} [Decidable p] {x y:PT} {w:World} (h1:¬p→x w) (h2:p→y w):cnd (!decide p) x y w :=
 ⟨fun h=>h1 (by simpa using h),fun h=>h2 (by simpa using h)⟩
theorem joinP_id {α:Type} {X:(α→PT)→PT} {Y:α→PT} {w:World} (h:X Y w):joinP X Y w:=⟨Y,fun _ _ h=>h,h⟩
structure Arr (k:IntKind) (w:World) (s:Sl) (l:List Nat):Prop where
 len:s.l=l.length
 cap:s.l≤s.c
 non:s.a=none→l = []
 get:∀b,s.a=some b→∀i (h:i<l.length),w.cell? (b.add i)=some (.int k (l[i]:Nat))
theorem Arr.fr {k:IntKind} {w w':World} {s:Sl} {l:List Nat} {S:List Nat} (h:Arr k w s l) (h':Fm w w' S) (hS:∀a,s.a=some a→l ≠ []→a.block∉S):Arr k w' s l:=by
 refine ⟨h.len,h.cap,h.non,?_⟩
 intro b hb i hi
 have h1:=h.get b hb i hi
 rw [←h1]
 have h2:=World.block_lt_of_cell? _ _ h1
 have h3:(b.add i).block=b.block:=by unfold Addr.add;split<;>rfl
 rw [h3] at h2
 have h4:=h'.old b.block h2 (hS b hb (by intro e;subst e;simp at hi))
 have h5:b.add i=⟨b.block,(b.add i).off,(b.add i).spot⟩:=by rw [←h3]
 rw [h5]
 exact cell?_of_heap h4 _ _
theorem wI8 {x:Int} (h1 : -128≤x) (h2:x<128):IntKind.i8.wrap x=x:=i8_in x ⟨h1,by omega⟩
theorem wI16 {x:Int} (h1 : -32768≤x) (h2:x<32768):IntKind.i16.wrap x=x:=i16_in x ⟨h1,by omega⟩
theorem wI32 {x:Int} (h1 : -2147483648≤x) (h2:x<2147483648):IntKind.i32.wrap x=x:=i32_in x ⟨h1,by omega⟩
theorem wI64 {x:Int} (h1 : -9223372036854775808≤x) (h2:x<9223372036854775808):IntKind.i64.wrap x=x:=i64_in x ⟨h1,by omega⟩
theorem wU8 {x:Int} (h1:0≤x) (h2:x<256):IntKind.u8.wrap x=x:=u8_in x ⟨h1,by omega⟩
theorem wU16 {x:Int} (h1:0≤x) (h2:x<65536):IntKind.u16.wrap x=x:=u16_in x ⟨h1,by omega⟩
theorem wU32 {x:Int} (h1:0≤x) (h2:x<4294967296):IntKind.u32.wrap x=x:=u32_in x ⟨h1,by omega⟩
theorem wU64 {x:Int} (h1:0≤x) (h2:x<18446744073709551616):IntKind.u64.wrap x=x:=u64_in x ⟨h1,by omega⟩
theorem wrap_nat (k:IntKind) (n:Nat) (h:n<2^(k.bits-1)):k.wrap (n:Int)=n:=by
 cases k<;>simp only [IntKind.bits] at h<;>first
  | exact wI8 (by omega) (by omega)|exact wI16 (by omega) (by omega)|exact wI32 (by omega) (by omega)|exact wI64 (by omega) (by omega)
  | exact wU8 (by omega) (by omega)|exact wU16 (by omega) (by omega)|exact wU32 (by omega) (by omega)|exact wU64 (by omega) (by omega)
theorem wrap_u {k:IntKind} (hk:k.signed=false) (n:Nat):k.wrap (n:Int)=(n%2^k.bits:Nat):=by
 unfold IntKind.wrap
 simp only [hk,Bool.false_and,Bool.false_eq_true,if_false]
 norm_cast
end Go.Sx
namespace Go.Sx
open Go
def updL (f:Cells) (o:Nat) (xs:List Value):Cells:=fun i=>if o≤i∧i<o+xs.length then xs[i-o]? else f i
theorem updL_nil (f:Cells) (o:Nat):updL f o []=f:=by
 funext i;unfold updL;rw [if_neg (by simp)]
theorem updL_cons (f:Cells) (o:Nat) (v:Value) (xs:List Value):updL (updC f o v) (o+1) xs=updL f o (v::xs):=by
 funext i;unfold updL updC
 by_cases h1:o+1≤i∧i<o+1+xs.length
 ·rw [if_pos h1,if_pos (by simp;omega)]
  rw [show i-o=(i-(o+1))+1 by omega,List.getElem?_cons_succ]
 ·rw [if_neg h1]
  by_cases h2:i=o
  ·subst h2;rw [if_pos rfl,if_pos (by simp)];simp
  ·rw [if_neg h2,if_neg (by simp;omega)]
theorem setL_off (w:World) (b o i:Nat) (xs:List Value):setL w ⟨b,o,none⟩ i xs=setL w ⟨b,o+i,none⟩ 0 xs:=by
 induction xs generalizing w o i with
 | nil=>rfl
 | cons v r ih =>
  simp only [setL,add_mk,Nat.add_zero]
  rw [ih,ih (o:=o+i),Nat.add_assoc]
theorem Blk.setL {w:World} {b o:Nat} {f:Cells} {xs:List Value} (h:Blk w b f) (ho:∀i,i<xs.length→(f (o+i)).isSome):Blk (setL w ⟨b,o,none⟩ 0 xs) b (updL f o xs):=by
 induction xs generalizing w o f with
 | nil=>rw [updL_nil];exact h
 | cons v r ih =>
  simp only [Go.Sx.setL,add_mk,Nat.add_zero]
  rw [setL_off, ←updL_cons]
  have h1:=h.set (v:=v) (ho 0 (by simp))
  refine ih h1 ?_
  intro i hi
  have:=ho (i+1) (by simpa using hi)
  unfold updC
  split
  ·rfl
  ·rw [show o+1+i=o+(i+1) by omega];exact this
theorem Fm.setL {w w':World} {S:List Nat} {b o:Nat} {xs:List Value} (h:Fm w w' S) (hb:b∈S∨w.heap.size≤b):Fm w (setL w' ⟨b,o,none⟩ 0 xs) S:=by
 induction xs generalizing w' o with
 | nil=>exact h
 | cons v r ih =>
  simp only [Go.Sx.setL,add_mk,Nat.add_zero]
  rw [setL_off]
  exact ih (h.set hb)
structure Vec (sz:Nat) (w:World) (s:Sl) (l:List Value):Prop where
 len:l.length=s.l*sz
 cap:s.l≤s.c
 non:s.a=none→s.c=0
 blk:∀a,s.a=some a→a.off=0∧a.spot=none∧∃f,Blk w a.block f∧(∀i,i<l.length→f i=l[i]?)∧∀i,i<s.c*sz→(f i).isSome
def Sl.bs (s:Sl):List Nat:=match s.a with
 | some a => [a.block]
 | none => []
theorem Vec.nil {sz:Nat} {w:World} : Vec sz w ⟨none,0,0⟩ []:=⟨by simp,Nat.le_refl _,fun _=>rfl,by simp⟩
theorem Vec.fr {sz:Nat} {w w':World} {s:Sl} {l:List Value} {S:List Nat} (h:Vec sz w s l) (h':Fm w w' S) (hS:∀b∈s.bs,b∉S):Vec sz w' s l:=by
 refine ⟨h.len,h.cap,h.non,?_⟩
 intro a ha
 obtain ⟨h1,h2,f,h3,h4,h5⟩:=h.blk a ha
 exact ⟨h1,h2,f,h3.fr h' (hS _ (by unfold Sl.bs;rw [ha];simp)),h4,h5⟩
theorem Vec.lt {sz:Nat} {w:World} {s:Sl} {l:List Value} (h:Vec sz w s l):∀b∈s.bs,b<w.heap.size:=by
 intro b hb
 unfold Sl.bs at hb
 split at hb
 ·rename_i a ha
  obtain ⟨h1,h2,f,h3,h4,h5⟩:=h.blk a ha
  simp at hb;subst hb;exact h3.lt
 ·simp at hb
theorem zrep_size (zs:List Value) (n:Nat):(zrep zs n).size=n*zs.length:=by simp [zrep]
theorem zrep_some (zs:List Value) (n i:Nat) (h:i<n*zs.length):((zrep zs n)[i]?).isSome:=by
 rw [Array.getElem?_eq_getElem (by rw [zrep_size];exact h)];rfl
structure Has (sz:Nat) (w:World) (x:Sl) (xs:List Value):Prop where
 len:xs.length=x.l*sz
 get:∀b,x.a=some b→∀i,i<xs.length→w.cell? (b.add i)=xs[i]?
 non:x.a=none→xs = []
 one:∀v∈xs,one v=true
theorem app_v {zs:List Value} {T:TypeId} {bytes:Nat} {s x:Sl} {κ:Sl→PT} {w:World} {l xs:List Value} (h:Vec zs.length w s l) (hx:Has zs.length w x xs) (hz:0<zs.length) (hb:(s.l+x.l)*bytes≤2^46)
  (hk:∀s' w',Vec zs.length w' s' (l++xs)→Fm w w' s.bs→(∀b∈s'.bs,b∈s.bs∨w.heap.size≤b)→κ s' w'):app zs T bytes s x κ w:=by
 refine ⟨hb,?_,?_⟩
 ·intro hc
  refine ⟨xs,hx.len,hx.get,hx.non,hx.one,?_⟩
  cases ha:s.a with
  | some a =>
   obtain ⟨h1,h2,f,h3,h4,h5⟩:=h.blk a ha
   obtain ⟨ab,ao,asp⟩:=a
   simp only at h1 h2 h3
   subst h1 h2
   simp only [add_mk,Nat.zero_add]
   have hlt:(s.l+x.l)*zs.length≤s.c*zs.length:=Nat.mul_le_mul_right _ hc
   rw [Nat.add_mul] at hlt
   have hxl:=hx.len
   refine ⟨?_,?_⟩
   ·intro i hi
    exact canSt_b h3 (h5 _ (by omega))
   ·have h6:=h3.setL (o:=s.l*zs.length) (xs:=xs) (fun i hi=>h5 _ (by omega))
    refine hk _ _ ⟨?_,?_,?_,?_⟩ ?_ ?_
    ·simp only [List.length_append,h.len,hx.len,Nat.add_mul]
    ·exact hc
    ·intro h;cases h
    ·intro a ha'
     injection ha' with ha'
     subst ha'
     refine ⟨rfl,rfl,_,h6,?_,?_⟩
     ·intro i hi
      have hl:=h.len
      unfold updL
      by_cases hi2:s.l*zs.length≤i
      ·simp only [List.length_append] at hi
       rw [if_pos (by omega),List.getElem?_append_right (by omega),h.len]
      ·rw [if_neg (by omega),h4 i (by omega),List.getElem?_append_left (by omega)]
     ·intro i hi
      unfold updL
      split
      ·rename_i hh
       rw [List.getElem?_eq_getElem (by omega)];rfl
      ·exact h5 i hi
    ·exact (Fm.refl w _).setL (.inl (by unfold Sl.bs;rw [ha];simp))
    ·intro b hb'
     left
     unfold Sl.bs at hb' ⊢
     rw [ha]
     exact hb'
  | none =>
   have h0:=h.non ha
   have h01:=h.cap
   have hx0:x.l=0:=by omega
   have hs0:s.l=0:=by omega
   have hxs:xs = []:=List.length_eq_zero_iff.mp (by rw [hx.len,hx0,Nat.zero_mul])
   have hl:l = []:=List.length_eq_zero_iff.mp (by rw [h.len,hs0,Nat.zero_mul])
   subst hxs hl
   refine hk _ _ ⟨?_,?_,?_,?_⟩ (Fm.refl w _) ?_
   ·simp [hx0,hs0]
   ·exact hc
   ·intro _;exact h0
   ·intro a ha';cases ha'
   ·intro b hb';unfold Sl.bs at hb';simp at hb'
 ·intro hc
  refine ⟨l,xs,h.len,?_,?_,hx.len,hx.get,hx.non,?_⟩
  ·intro b hb' i hi
   obtain ⟨h1,h2,f,h3,h4,h5⟩:=h.blk b hb'
   obtain ⟨ab,ao,asp⟩:=b
   simp only at h1 h2 h3
   subst h1 h2
   rw [add_mk,Nat.zero_add,h3.cell,h4 i hi]
  ·intro ha
   have h0:=h.non ha
   have h01:=h.cap
   exact List.length_eq_zero_iff.mp (by rw [h.len,show s.l=0 by omega,Nat.zero_mul])
  ·intro c hc1 hc2
   have hl:=h.len
   have hxl:=hx.len
   refine hk _ _ ⟨?_,hc1,?_,?_⟩ ?_ ?_
   ·simp only [List.length_append,h.len,hx.len,Nat.add_mul]
   ·intro h;cases h
   ·intro a ha'
    injection ha' with ha'
    subst ha'
    refine ⟨rfl,rfl,_,Blk.new,?_,?_⟩
    ·intro i hi
     rw [Array.getElem?_append_left (by simp only [Array.size_append,List.size_toArray];simp only [List.length_append] at hi;omega)]
     rw [←Array.getElem?_toList];simp
    ·intro i hi
     simp only at hi
     rw [Array.getElem?_eq_getElem (by simp only [Array.size_append,List.size_toArray,zrep_size,Nat.sub_mul,Nat.add_mul];have:=Nat.mul_le_mul_right zs.length hc1;rw [Nat.add_mul] at this;omega)]
     rfl
   ·exact (Fm.refl w _).drew.alloc
   ·intro b hb'
    right
    unfold Sl.bs at hb'
    simp at hb'
    subst hb'
    exact Nat.le_refl _
theorem app_1 {z:Value} {T T':TypeId} {bytes:Nat} {s:Sl} {κ:Sl→PT} {w:World} {l:List Value} {v:Value} (h:Vec 1 w s l) (hv:one v=true) (hb:(s.l+1)*bytes≤2^46)
  (hk:∀s' w',Vec 1 w' s' (l ++ [v])→Fm w w' s.bs→(∀b∈s'.bs,b∈s.bs∨w.heap.size≤b)→κ s' w'):nw [v] T' (fun p=>app [z] T bytes s ⟨some p,1,1⟩ κ) w:=by
 have h0:Fm w (w.alloc (.cells ⟨[v]⟩ T')) []:=(Fm.refl w []).alloc
 refine app_v (zs := [z]) (xs := [v]) (h.fr h0 (by simp)) ⟨rfl,?_,(fun h=>by cases h),by simpa using hv⟩ (by simp) hb ?_
 ·intro b hb' i hi
  injection hb' with hb'
  subst hb'
  have hi:i=0:=by simpa using hi
  subst hi
  simp [add_mk]
 ·intro s' w' h1 h2 h3
  refine hk s' w' h1 ((h0.mono (S':=s.bs) (by simp)).trans h2 (fun b hb => .inl hb)) ?_
  intro b hb'
  rcases h3 b hb' with h4|h4
  ·exact .inl h4
  ·right;rw [World.size_alloc] at h4;omega
def leN:List Nat→Nat
 | []=>0
 | x::r=>x+256*leN r
def By (l:List Nat):Prop:=∀x∈l,x<256
theorem By.cons {x:Nat} {l:List Nat} (h:By (x::l)):x<256∧By l:=⟨h x (by simp),fun y hy=>h y (by simp [hy])⟩
theorem getD_out {l:List Nat} {i:Nat} (h:l.length≤i):l.getD i 0=0:=by rw [List.getD_eq_getElem?_getD,List.getElem?_eq_none h];rfl
theorem getD_in {l:List Nat} {i:Nat} (h:i<l.length):l.getD i 0=l[i]:=by rw [List.getD_eq_getElem?_getD,List.getElem?_eq_getElem h];rfl
theorem leN_lt:∀ {l:List Nat},By l→leN l<256^l.length
 | [],_=>by simp [leN]
 | x::r,h=>by
  have ⟨h1,h2⟩:=h.cons
  have:=leN_lt h2
  simp only [leN,List.length_cons,Nat.pow_succ]
  omega
theorem leN_get:∀ {l:List Nat} (i:Nat),By l→leN l/256^i%256=l.getD i 0
 | [],i,_=>by simp [leN]
 | x::r,0,h=>by
  have ⟨h1,h2⟩:=h.cons
  simp only [leN,Nat.pow_zero,Nat.div_one,List.getD_cons_zero]
  omega
 | x::r,i+1,h=>by
  have ⟨h1,h2⟩:=h.cons
  simp only [leN,List.getD_cons_succ]
  rw [←leN_get i h2,Nat.pow_succ,Nat.mul_comm (256^i) 256, ←Nat.div_div_eq_div_mul]
  rw [show (x+256*leN r)/256=leN r by omega]
theorem leN_bit {l:List Nat} (n:Nat) (h:By l):leN l/2^n%2=l.getD (n/8) 0/2^(n%8)%2:=by
 rw [←leN_get _ h]
 have e:n=8*(n/8)+n%8:=by omega
 have h8:n%8<8:=Nat.mod_lt _ (by omega)
 generalize n/8=q at *
 generalize n%8=r at *
 subst e
 rw [Nat.pow_add, ←Nat.div_div_eq_div_mul,show (2:Nat)^(8*q)=256^q by rw [Nat.pow_mul]]
 generalize leN l/256^q=y
 have:(256:Nat)=2^r*2^(8-r):=by rw [←Nat.pow_add,show r+(8-r)=8 by omega]
 rw [this,Nat.mod_mul_right_div_self]
 rw [show (2:Nat)^(8-r)=2*2^(7-r) by rw [←Nat.pow_succ',show (7-r).succ=8-r by omega]]
 rw [Nat.mod_mul_right_mod]
theorem leN_append (a b:List Nat):leN (a++b)=leN a+256^a.length*leN b:=by
 induction a with
 | nil=>simp [leN]
 | cons x r ih=>simp only [List.cons_append,leN,ih,List.length_cons,Nat.pow_succ];rw [Nat.mul_add,Nat.mul_comm (256^r.length) 256,Nat.mul_assoc];omega
theorem ofInt_nat (n m:Nat):BitVec.ofInt n (m:Int)=BitVec.ofNat n m:=BitVec.ofInt_natCast n m
theorem andI_nat {k:IntKind} (hk:k.signed=false) (a b:Nat) (ha:a<2^k.bits) (hb:b<2^k.bits):andI k a b=((a &&& b:Nat):Int):=by
 unfold andI
 rw [ofInt_nat,ofInt_nat,BitVec.toNat_and,BitVec.toNat_ofNat,BitVec.toNat_ofNat,Nat.mod_eq_of_lt ha,Nat.mod_eq_of_lt hb,wrap_u hk]
 rw [Nat.mod_eq_of_lt (Nat.lt_of_le_of_lt Nat.and_le_left ha)]
theorem orI_nat {k:IntKind} (hk:k.signed=false) (a b:Nat) (ha:a<2^k.bits) (hb:b<2^k.bits):orI k a b=((a ||| b:Nat):Int):=by
 unfold orI
 rw [ofInt_nat,ofInt_nat,BitVec.toNat_or,BitVec.toNat_ofNat,BitVec.toNat_ofNat,Nat.mod_eq_of_lt ha,Nat.mod_eq_of_lt hb,wrap_u hk]
 rw [Nat.mod_eq_of_lt (Nat.or_lt_two_pow ha hb)]
theorem andI_i64 (a b:Nat) (ha:a<2^63) (hb:b<2^63):andI .i64 a b=((a &&& b:Nat):Int):=by
 unfold andI
 rw [ofInt_nat,ofInt_nat,BitVec.toNat_and,BitVec.toNat_ofNat,BitVec.toNat_ofNat]
 simp only [IntKind.bits]
 rw [Nat.mod_eq_of_lt (by omega),Nat.mod_eq_of_lt (by omega)]
 exact wrap_nat .i64 _ (Nat.lt_of_le_of_lt Nat.and_le_left ha)
theorem shrI_nat (k:IntKind) (a b:Nat) (ha:a<2^k.bits):shrI k a b=((a/2^b:Nat):Int):=by
 unfold shrI
 rw [Int.toNat_natCast]
 have e:((2:Int)^(min b k.bits))=((2^(min b k.bits):Nat):Int):=by norm_cast
 rw [e,Int.fdiv_eq_ediv_of_nonneg _ (by exact Int.natCast_nonneg _), ←Int.natCast_ediv]
 by_cases hb:b≤k.bits
 ·rw [Nat.min_eq_left hb]
 ·rw [Nat.min_eq_right (by omega),Nat.div_eq_of_lt ha,Nat.div_eq_of_lt (Nat.lt_of_lt_of_le ha (Nat.pow_le_pow_right (by omega) (by omega)))]
theorem shlI_nat (k:IntKind) (a b:Nat) (hb:b≤k.bits) (h:a*2^b<2^(k.bits-1)):shlI k a b=((a*2^b:Nat):Int):=by
 unfold shlI
 rw [Int.toNat_natCast,Nat.min_eq_left hb]
 have e:((a:Int)*(2:Int)^b)=((a*2^b:Nat):Int):=by norm_cast
 rw [e,wrap_nat k _ h]
theorem shlI_u {k:IntKind} (hk:k.signed=false) (a b:Nat) (hb:b≤k.bits):shlI k a b=((a*2^b%2^k.bits:Nat):Int):=by
 unfold shlI
 rw [Int.toNat_natCast,Nat.min_eq_left hb]
 have e:((a:Int)*(2:Int)^b)=((a*2^b:Nat):Int):=by norm_cast
 rw [e,wrap_u hk]
theorem quoI_nat (k:IntKind) (a b:Nat) (h:a<2^(k.bits-1)):quoI k a b=((a/b:Nat):Int):=by
 unfold quoI
 rw [show Int.tdiv (a:Int) (b:Int)=((a/b:Nat):Int) from rfl]
 exact wrap_nat k _ (Nat.lt_of_le_of_lt (Nat.div_le_self _ _) h)
end Go.Sx
namespace Go.Sx
open Go Go.Proofs
set_option maxRecDepth 100000
def q6_J0 (K2:Bool→PT) (x8:Bool):PT :=
 K2 x8
def q6 (s0:Sl) (n1:Int) (K2:Bool→PT):PT :=
 cnd (decide ((2147483647:Int)<(s0.l:Int))) (K2 true) (cnd (decide ((262144:Int)<(s0.l:Int))) (K2 true) (callP Tryd.prog 24 #[(.slice s0.a s0.l s0.c),(.bool false),(.int .u8 n1),(.int .u8 (0:Int))] [.c .S,.c .S,.c .S,.c (.I .i64)] fun (r3:Sl×Sl×Sl×Int)=>cnd (!decide (r3.2.2.2=(0:Int))) (callP Tryd.prog 25 #[(.int .i64 r3.2.2.2)] [.c .B] fun (r4:Bool)=>K2 r4) (callP Tryd.prog 15 #[(.slice r3.2.1.a r3.2.1.l r3.2.1.c)] [.c .S,.c (.I .i64),.c .B] fun (r5:Sl×Int×Bool)=>joinP (fun R6=>cnd r5.2.2 (callP Tryd.prog 28 #[(.slice r5.1.a r5.1.l r5.1.c),(.slice s0.a s0.l s0.c)] [.c (.I .i64)] fun (r7:Int)=>req ((8:Int)≠0)<|R6 (decide ((r3.2.2.1.l:Int)=(IntKind.wrap .i64 ((quoI .i64 r7 (8:Int))+(1:Int)))))) (R6 false)) (q6_J0 K2))))
def h6:Hint:=⟨(.n .e 127 ([(4,.c .B)],[]) .e),.e⟩
theorem q6_eq (s0:Sl) (n1:Int) (K2:Bool→PT):fnE Cx h6 [.c .B] Tryd.f6 [.v (.slice s0.a s0.l s0.c),.v (.int .u8 n1)] K2=q6 s0 n1 K2:=by kernel_rfl
theorem q6_fnok:fnOk Tryd.f6 2=true:=by kernel_rfl
theorem q6_ok (s0:Sl) (n1:Int) (K2:Bool→PT) {w:World} (h:q6 s0 n1 K2 w):Calls Tryd.prog 6 #[(.slice s0.a s0.l s0.c),(.int .u8 n1)] w fun e w'=>∃r,e = .returned (resMk [.c .B] r)∧K2 r w' :=
 of_eq Tryd.func6 q6_fnok (by kernel_rfl) (by kernel_rfl) (q6_eq s0 n1 K2) h
def q15_J0 (x4:(Int×Int×Int)) (A5:(Int×Int×Int)→PT) (x9:Int×Int):PT :=
 A5 (x9.1,x9.2,(IntKind.wrap .i64 (x4.2.2+(1:Int))))
def q15_L1 (K1:(Sl×Int×Bool)→PT) (r2:Sl×Int×Bool) (R3:Int×Int→PT) (x4:Int×Int×Int) (A5:(Int×Int×Int)→PT):PT :=
 cnd (decide (x4.2.2<(r2.1.l:Int))) (joinP (fun R6=>ixS 1 r2.1 x4.2.2 fun (p7:Addr)=>ld (.I .i64) p7 fun (n8:Int)=>cnd (decide ((12:Int)<n8)) (K1 (⟨none,0,0⟩,(0:Int),false)) (cnd (decide ((0:Int)<n8)) (req (0≤(IntKind.wrap .i64 (n8-(1:Int))))<|R6 (x4.1,(IntKind.wrap .i64 (x4.2.1+(shlI .i64 (1:Int) (IntKind.wrap .i64 (n8-(1:Int)))))))) (R6 (x4.1,x4.2.1)))) (q15_J0 x4 A5)) (R3 (x4.1,x4.2.1))
def q15_J2 (x18:(Int×Int)) (A19:(Int×Int)→PT) (x24:Int):PT :=
 A19 (x24,(IntKind.wrap .i64 (x18.2+(1:Int))))
def q15_L3 (r11:Int) (s15:Sl) (s16:Sl) (R17:Int→PT) (x18:Int×Int) (A19:(Int×Int)→PT):PT :=
 cnd (decide (x18.2<(s15.l:Int))) (joinP (fun R20=>ixS 1 s15 x18.2 fun (p21:Addr)=>ld (.I .i64) p21 fun (n22:Int)=>cnd (decide ((0:Int)<n22)) (ixS 1 s16 x18.2 fun (p23:Addr)=>st p23 (.int .i64 (IntKind.wrap .i64 ((IntKind.wrap .i64 ((IntKind.wrap .i64 (r11+(1:Int)))+(1:Int)))-n22)))<|R20 (IntKind.wrap .i64 (x18.1+(1:Int)))) (R20 x18.1)) (q15_J2 x18 A19)) (R17 x18.1)
def q15_J4 (K1:(Sl×Int×Bool)→PT) (x10:(Int×Int)) (s16:Sl) (x25:Int):PT :=
 K1 (s16,x10.1,(decide ((1:Int)<x25)))
def q15_J5 (K1:(Sl×Int×Bool)→PT) (r2:Sl×Int×Bool) (x10:Int×Int):PT :=
 cnd (decide (x10.2=(0:Int))) (K1 (⟨none,0,0⟩,(0:Int),false)) (callP Tryd.prog 44 #[(.int .i64 x10.2)] [.c (.I .i64)] fun (r11:Int)=>req (0≤(IntKind.wrap .i64 (r11+(1:Int))))<|cnd (decide ((11:Int)<(IntKind.wrap .i64 (r11+(1:Int))))) (K1 (⟨none,0,0⟩,(0:Int),false)) (callP Tryd.prog 44 #[(.int .i64 (IntKind.wrap .i64 ((shlI .i64 (1:Int) (IntKind.wrap .i64 (r11+(1:Int))))-x10.2)))] [.c (.I .i64)] fun (r12:Int)=>req (0≤r12)<|cnd (!decide ((IntKind.wrap .i64 ((shlI .i64 (1:Int) (IntKind.wrap .i64 (r11+(1:Int))))-x10.2))=(shlI .i64 (1:Int) r12))) (K1 (⟨none,0,0⟩,(0:Int),false)) (callP Tryd.prog 44 #[(.int .i64 (IntKind.wrap .i64 ((shlI .i64 (1:Int) (IntKind.wrap .i64 (r11+(1:Int))))-x10.2)))] [.c (.I .i64)] fun (r13:Int)=>nw [(.int .i64 (IntKind.wrap .i64 (r13+(1:Int))))] 3 fun (p14:Addr)=>app z3 3 8 r2.1 ⟨(some p14),1,1⟩ fun (s15:Sl)=>mks z3 3 8 (256:Int) (256:Int) fun (s16:Sl)=>joinP (fun R17=>loopP ((0:Int),(0:Int)) (q15_L3 r11 s15 s16 R17)) (q15_J4 K1 x10 s16))))
def q15 (s0:Sl) (K1:(Sl×Int×Bool)→PT):PT :=
 callP Tryd.prog 43 #[(.slice s0.a s0.l s0.c)] [.c .S,.c (.I .i64),.c .B] fun (r2:Sl×Int×Bool)=>cnd (!r2.2.2) (K1 (⟨none,0,0⟩,(0:Int),false)) (cnd (decide ((255:Int)<(r2.1.l:Int))) (K1 (⟨none,0,0⟩,(0:Int),false)) (joinP (fun R3=>loopP (r2.2.1,(0:Int),(0:Int)) (q15_L1 K1 r2 R3)) (q15_J5 K1 r2)))
def h15:Hint:=⟨(.n (.n (.n .e 31 ([(3,.c (.I .i64)),(6,.c (.I .i64))],[5]) .e) 250 ([(3,.c (.I .i64)),(6,.c (.I .i64)),(29,.c (.I .i64))],[27,5,28]) (.n .e 2003 ([(3,.c (.I .i64)),(6,.c (.I .i64))],[29,27,5,28]) .e)) 8191 ([(11,.c (.I .i64))],[2,3]) (.n (.n .e 65530 ([(11,.c (.I .i64)),(70,.c (.I .i64))],[9,2,68,3,69]) .e) 524243 ([(11,.c (.I .i64))],[70,9,2,68,3,69]) .e)),.e⟩
theorem q15_eq (s0:Sl) (K1:(Sl×Int×Bool)→PT):fnE Cx h15 [.c .S,.c (.I .i64),.c .B] Tryd.f15 [.v (.slice s0.a s0.l s0.c)] K1=q15 s0 K1:=by kernel_rfl
theorem q15_fnok:fnOk Tryd.f15 1=true:=by kernel_rfl
theorem q15_ok (s0:Sl) (K1:(Sl×Int×Bool)→PT) {w:World} (h:q15 s0 K1 w):Calls Tryd.prog 15 #[(.slice s0.a s0.l s0.c)] w fun e w'=>∃r,e = .returned (resMk [.c .S,.c (.I .i64),.c .B] r)∧K1 r w' :=
 of_eq Tryd.func15 q15_fnok (by kernel_rfl) (by kernel_rfl) (q15_eq s0 K1) h
def q24 (s0:Sl) (b1:Bool) (n2:Int) (n3:Int) (K4:(Sl×Sl×Sl×Int)→PT):PT :=
 nwA ⟨(List.set (List.set (List.set z94 263 (.int .u8 (2:Int))) 262 (.int .u8 n2)) 264 (.int .u8 n3))⟩ 94 fun (p5:Addr)=>callP Tryd.prog 50 #[(.slice s0.a s0.l s0.c),(.pointer (some p5)),(.bool b1)] [.c .S,.c .B,.c .V] fun (r6:Sl×Bool×Value)=>req (isIf r6.2.2=true)<|cnd (!(isNil r6.2.2)) (callP Tryd.prog 51 #[r6.2.2] [.c (.I .i64)] fun (r7:Int)=>K4 (⟨none,0,0⟩,⟨none,0,0⟩,⟨none,0,0⟩,r7)) (drw<|ld .S (Addr.add p5 257) fun (s8:Sl)=>ld .S (Addr.add p5 258) fun (s9:Sl)=>callP Tryd.prog 47 #[(.slice r6.1.a r6.1.l r6.1.c)] [.c .S] fun (r10:Sl)=>kp [((Addr.add p5 258),(.slice s9.a s9.l s9.c)),((Addr.add p5 257),(.slice s8.a s8.l s8.c))]<|callP Tryd.prog 47 #[(.slice s8.a s8.l s8.c)] [.c .S] fun (r11:Sl)=>kp [((Addr.add p5 258),(.slice s9.a s9.l s9.c))]<|callP Tryd.prog 47 #[(.slice s9.a s9.l s9.c)] [.c .S] fun (r12:Sl)=>K4 (r10,r11,r12,(0:Int)))
def h24:Hint:=⟨.e,.e⟩
theorem q24_eq (s0:Sl) (b1:Bool) (n2:Int) (n3:Int) (K4:(Sl×Sl×Sl×Int)→PT):fnE Cx h24 [.c .S,.c .S,.c .S,.c (.I .i64)] Tryd.f24 [.v (.slice s0.a s0.l s0.c),.v (.bool b1),.v (.int .u8 n2),.v (.int .u8 n3)] K4=q24 s0 b1 n2 n3 K4:=by kernel_rfl
theorem q24_fnok:fnOk Tryd.f24 4=true:=by kernel_rfl
theorem q24_ok (s0:Sl) (b1:Bool) (n2:Int) (n3:Int) (K4:(Sl×Sl×Sl×Int)→PT) {w:World} (h:q24 s0 b1 n2 n3 K4 w):Calls Tryd.prog 24 #[(.slice s0.a s0.l s0.c),(.bool b1),(.int .u8 n2),(.int .u8 n3)] w fun e w'=>∃r,e = .returned (resMk [.c .S,.c .S,.c .S,.c (.I .i64)] r)∧K4 r w' :=
 of_eq Tryd.func24 q24_fnok (by kernel_rfl) (by kernel_rfl) (q24_eq s0 b1 n2 n3 K4) h
def q25_J0 (K1:Bool→PT) (x3:Bool):PT :=
 K1 x3
def q25 (n0:Int) (K1:Bool→PT):PT :=
 joinP (fun R2=>cnd (decide ((0:Int)≤n0)) (R2 (decide (n0≤(4:Int)))) (R2 false)) (q25_J0 K1)
def h25:Hint:=⟨(.n .e 3 ([(2,.c .B)],[]) .e),.e⟩
theorem q25_eq (n0:Int) (K1:Bool→PT):fnE Cx h25 [.c .B] Tryd.f25 [.v (.int .i64 n0)] K1=q25 n0 K1:=by kernel_rfl
theorem q25_fnok:fnOk Tryd.f25 1=true:=by kernel_rfl
theorem q25_ok (n0:Int) (K1:Bool→PT) {w:World} (h:q25 n0 K1 w):Calls Tryd.prog 25 #[(.int .i64 n0)] w fun e w'=>∃r,e = .returned (resMk [.c .B] r)∧K1 r w' :=
 of_eq Tryd.func25 q25_fnok (by kernel_rfl) (by kernel_rfl) (q25_eq n0 K1) h
def q28_L0 (s0:Sl) (s1:Sl) (K2:Int→PT) (R3:Int→PT) (x4:Int×Int) (A5:(Int×Int)→PT):PT :=
 cnd (decide (x4.2<(s1.l:Int))) (ixS 1 s1 x4.2 fun (p6:Addr)=>ld (.I .u8) p6 fun (n7:Int)=>cnd (decide ((s0.l:Int)≤(IntKind.wrap .i64 n7))) (K2 (-1:Int)) (ixS 1 s0 n7 fun (p8:Addr)=>ld (.I .i64) p8 fun (n9:Int)=>cnd (decide (n9≤(0:Int))) (K2 (-1:Int)) (ixS 1 s0 n7 fun (p10:Addr)=>ld (.I .i64) p10 fun (n11:Int)=>A5 ((IntKind.wrap .i64 (x4.1+n11)),(IntKind.wrap .i64 (x4.2+(1:Int))))))) (R3 x4.1)
def q28_J1 (K2:Int→PT) (x12:Int):PT :=
 K2 x12
def q28 (s0:Sl) (s1:Sl) (K2:Int→PT):PT :=
 joinP (fun R3=>loopP ((0:Int),(0:Int)) (q28_L0 s0 s1 K2 R3)) (q28_J1 K2)
def h28:Hint:=⟨(.n (.n .e 7 ([(5,.c (.I .i64))],[]) .e) 58 ([(5,.c (.I .i64)),(10,.c (.I .i64))],[0,8,9]) .e),.e⟩
theorem q28_eq (s0:Sl) (s1:Sl) (K2:Int→PT):fnE Cx h28 [.c (.I .i64)] Tryd.f28 [.v (.slice s0.a s0.l s0.c),.v (.slice s1.a s1.l s1.c)] K2=q28 s0 s1 K2:=by kernel_rfl
theorem q28_fnok:fnOk Tryd.f28 2=true:=by kernel_rfl
theorem q28_ok (s0:Sl) (s1:Sl) (K2:Int→PT) {w:World} (h:q28 s0 s1 K2 w):Calls Tryd.prog 28 #[(.slice s0.a s0.l s0.c),(.slice s1.a s1.l s1.c)] w fun e w'=>∃r,e = .returned (resMk [.c (.I .i64)] r)∧K2 r w' :=
 of_eq Tryd.func28 q28_fnok (by kernel_rfl) (by kernel_rfl) (q28_eq s0 s1 K2) h
def q43_J0 (x6:(Sl×Int)) (A7:(Sl×Int)→PT) (x11:Int):PT :=
 req ((16:Int)≠0)<|nw [(.int .i64 (Int.tmod x11 (16:Int)))] 3 fun (p12:Addr)=>app z3 3 8 x6.1 ⟨(some p12),1,1⟩ fun (s13:Sl)=>A7 (s13,(IntKind.wrap .i64 (x6.2+(1:Int))))
def q43_L1 (s0:Sl) (n3:Int) (R5:Sl→PT) (x6:Sl×Int) (A7:(Sl×Int)→PT):PT :=
 cnd (decide (x6.2<(IntKind.wrap .i64 ((IntKind.wrap .i64 n3)-(127:Int))))) (req ((2:Int)≠0)<|ixS 1 s0 (IntKind.wrap .i64 ((1:Int)+(quoI .i64 x6.2 (2:Int)))) fun (p8:Addr)=>ld (.I .u8) p8 fun (n9:Int)=>joinP (fun R10=>req ((2:Int)≠0)<|cnd (decide ((Int.tmod x6.2 (2:Int))=(0:Int))) (req ((16:Int)≠0)<|R10 (quoI .i64 (IntKind.wrap .i64 n9) (16:Int))) (R10 (IntKind.wrap .i64 n9))) (q43_J0 x6 A7)) (R5 x6.1)
def q43_J2 (K1:(Sl×Int×Bool)→PT) (n3:Int) (x14:Sl):PT :=
 req ((2:Int)≠0)<|K1 (x14,(IntKind.wrap .i64 ((1:Int)+(quoI .i64 (IntKind.wrap .i64 ((IntKind.wrap .i64 ((IntKind.wrap .i64 n3)-(127:Int)))+(1:Int))) (2:Int)))),true)
def q43_L3 (r19:Sl×Bool) (R20:Sl→PT) (x21:Sl×Int) (A22:(Sl×Int)→PT):PT :=
 cnd (decide (x21.2<(r19.1.l:Int))) (ixS 1 r19.1 x21.2 fun (p23:Addr)=>ld (.I .u8) p23 fun (n24:Int)=>nw [(.int .i64 (IntKind.wrap .i64 n24))] 3 fun (p25:Addr)=>app z3 3 8 x21.1 ⟨(some p25),1,1⟩ fun (s26:Sl)=>A22 (s26,(IntKind.wrap .i64 (x21.2+(1:Int))))) (R20 x21.1)
def q43_J4 (K1:(Sl×Int×Bool)→PT) (x15:(Int)) (r19:Sl×Bool) (x27:Sl):PT :=
 K1 (x27,(IntKind.wrap .i64 ((1:Int)+x15)),r19.2)
def q43_J5 (s0:Sl) (K1:(Sl×Int×Bool)→PT) (x15:Int):PT :=
 cnd (decide ((s0.l:Int)<(IntKind.wrap .i64 ((1:Int)+x15)))) (K1 (⟨none,0,0⟩,(0:Int),false)) (slc 1 s0 (some (1:Int)) (some (IntKind.wrap .i64 ((1:Int)+x15))) none fun (s16:Sl)=>callP Tryd.prog 49 #[(.slice s16.a s16.l s16.c)] [.c .S,.c (.I .i64),.c .S,.c .B] fun (r17:Sl×Int×Sl×Bool)=>cnd (!r17.2.2.2) (K1 (⟨none,0,0⟩,(0:Int),false)) (cnd (decide ((6:Int)<r17.2.1)) (K1 (⟨none,0,0⟩,(0:Int),false)) (callP Tryd.prog 57 #[(.slice r17.1.a r17.1.l r17.1.c),(.int .i64 r17.2.1)] [.c .S,.c .B] fun (r18:Sl×Bool)=>cnd (!r18.2) (K1 (⟨none,0,0⟩,(0:Int),false)) (callP Tryd.prog 60 #[(.slice r17.2.2.1.a r17.2.2.1.l r17.2.2.1.c),(.slice r18.1.a r18.1.l r18.1.c),(.int .i64 r17.2.1),(.int .i64 (255:Int))] [.c .S,.c .B] fun (r19:Sl×Bool)=>joinP (fun R20=>loopP (⟨none,0,0⟩,(0:Int)) (q43_L3 r19 R20)) (q43_J4 K1 x15 r19)))))
def q43_X6 (s0:Sl) (K1:(Sl×Int×Bool)→PT) (n3:Int) (R4:Int→PT):PT :=
 cnd (decide ((128:Int)≤(IntKind.wrap .i64 n3))) (req ((2:Int)≠0)<|cnd (decide ((s0.l:Int)<(IntKind.wrap .i64 ((1:Int)+(quoI .i64 (IntKind.wrap .i64 ((IntKind.wrap .i64 ((IntKind.wrap .i64 n3)-(127:Int)))+(1:Int))) (2:Int)))))) (K1 (⟨none,0,0⟩,(0:Int),false)) (joinP (fun R5=>loopP (⟨none,0,0⟩,(0:Int)) (q43_L1 s0 n3 R5)) (q43_J2 K1 n3))) (R4 (IntKind.wrap .i64 n3))
def q43 (s0:Sl) (K1:(Sl×Int×Bool)→PT):PT :=
 cnd (decide ((s0.l:Int)=(0:Int))) (K1 (⟨none,0,0⟩,(0:Int),false)) (ixS 1 s0 (0:Int) fun (p2:Addr)=>ld (.I .u8) p2 fun (n3:Int)=>joinP (q43_X6 s0 K1 n3) (q43_J5 s0 K1))
def h43:Hint:=⟨(.n (.n (.n .e 15 ([(5,.c (.I .i64))],[0]) .e) 983 ([(6,.c .S)],[5]) (.n .e 4095 ([(15,.c .S)],[5,12]) .e)) 7866 ([(6,.c .S),(37,.c (.I .i64))],[0,5,36]) (.n (.n .e 32762 ([(15,.c .S),(101,.c (.I .i64))],[99,5,12,100]) .e) 1006899 ([(8,.c (.I .i64))],[6,37,0,5,36]) .e)),.e⟩
theorem q43_eq (s0:Sl) (K1:(Sl×Int×Bool)→PT):fnE Cx h43 [.c .S,.c (.I .i64),.c .B] Tryd.f43 [.v (.slice s0.a s0.l s0.c)] K1=q43 s0 K1:=by kernel_rfl
theorem q43_fnok:fnOk Tryd.f43 1=true:=by kernel_rfl
theorem q43_ok (s0:Sl) (K1:(Sl×Int×Bool)→PT) {w:World} (h:q43 s0 K1 w):Calls Tryd.prog 43 #[(.slice s0.a s0.l s0.c)] w fun e w'=>∃r,e = .returned (resMk [.c .S,.c (.I .i64),.c .B] r)∧K1 r w' :=
 of_eq Tryd.func43 q43_fnok (by kernel_rfl) (by kernel_rfl) (q43_eq s0 K1) h
def q44_L0 (R2:Int→PT) (x3:Int×Int) (A4:(Int×Int)→PT):PT :=
 cnd (decide ((1:Int)<x3.1)) (req ((2:Int)≠0)<|A4 ((quoI .i64 x3.1 (2:Int)),(IntKind.wrap .i64 (x3.2+(1:Int))))) (R2 x3.2)
def q44_J1 (K1:Int→PT) (x5:Int):PT :=
 K1 x5
def q44 (n0:Int) (K1:Int→PT):PT :=
 joinP (fun R2=>loopP (n0,(0:Int)) (q44_L0 R2)) (q44_J1 K1)
def h44:Hint:=⟨(.n (.n .e 7 ([(3,.c (.I .i64))],[]) .e) 28 ([(0,.c (.I .i64)),(3,.c (.I .i64))],[]) .e),.e⟩
theorem q44_eq (n0:Int) (K1:Int→PT):fnE Cx h44 [.c (.I .i64)] Tryd.f44 [.v (.int .i64 n0)] K1=q44 n0 K1:=by kernel_rfl
theorem q44_fnok:fnOk Tryd.f44 1=true:=by kernel_rfl
theorem q44_ok (n0:Int) (K1:Int→PT) {w:World} (h:q44 n0 K1 w):Calls Tryd.prog 44 #[(.int .i64 n0)] w fun e w'=>∃r,e = .returned (resMk [.c (.I .i64)] r)∧K1 r w' :=
 of_eq Tryd.func44 q44_fnok (by kernel_rfl) (by kernel_rfl) (q44_eq n0 K1) h
def q47 (s0:Sl) (K1:Sl→PT):PT :=
 nw [] 5 fun (p2:Addr)=>app z5 5 1 ⟨(some p2),0,0⟩ s0 fun (s3:Sl)=>K1 s3
def h47:Hint:=⟨.e,.e⟩
theorem q47_eq (s0:Sl) (K1:Sl→PT):fnE Cx h47 [.c .S] Tryd.f47 [.v (.slice s0.a s0.l s0.c)] K1=q47 s0 K1:=by kernel_rfl
theorem q47_fnok:fnOk Tryd.f47 1=true:=by kernel_rfl
theorem q47_ok (s0:Sl) (K1:Sl→PT) {w:World} (h:q47 s0 K1 w):Calls Tryd.prog 47 #[(.slice s0.a s0.l s0.c)] w fun e w'=>∃r,e = .returned (resMk [.c .S] r)∧K1 r w' :=
 of_eq Tryd.func47 q47_fnok (by kernel_rfl) (by kernel_rfl) (q47_eq s0 K1) h
def q49_J0 (p2:Addr) (x5:(Int×Int)) (A6:(Int×Int)→PT) (r9:Int) (x14:Int):PT :=
 cnd (decide ((IntKind.wrap .i64 (r9-(1:Int)))=(0:Int))) (callP Tryd.prog 69 #[(.pointer (some p2))] [] fun (r15:Unit)=>A6 (x5.1,(IntKind.wrap .i64 (x14-(maxI (IntKind.wrap .i64 (r9-(1:Int))) (0:Int)))))) (A6 (x5.1,(IntKind.wrap .i64 (x14-(maxI (IntKind.wrap .i64 (r9-(1:Int))) (0:Int))))))
def q49_L1 (K1:(Sl×Int×Sl×Bool)→PT) (p2:Addr) (R4:Int×Int→PT) (x5:Int×Int) (A6:(Int×Int)→PT):PT :=
 cnd (decide ((0:Int)<x5.2)) (ld .B (Addr.add p2 2) fun (b7:Bool)=>cnd b7 (ld .S (Addr.add p2 3) fun (s8:Sl)=>cnd (decide ((255:Int)<(s8.l:Int))) (K1 (⟨none,0,0⟩,(0:Int),⟨none,0,0⟩,false)) (callP Tryd.prog 68 #[(.pointer (some p2)),(.int .i64 (IntKind.wrap .i64 (x5.2+(1:Int))))] [.c (.I .i64)] fun (r9:Int)=>ld .S (Addr.add p2 3) fun (s10:Sl)=>nw [(.int .i64 (IntKind.wrap .i64 (r9-(1:Int))))] 3 fun (p11:Addr)=>app z3 3 8 s10 ⟨(some p11),1,1⟩ fun (s12:Sl)=>st (Addr.add p2 3) (.slice s12.a s12.l s12.c)<|joinP (fun R13=>cnd (decide ((IntKind.wrap .i64 (r9-(1:Int)))<(0:Int))) (R13 (IntKind.wrap .i64 (x5.2-(1:Int)))) (R13 x5.2)) (q49_J0 p2 x5 A6 r9))) (R4 (x5.1,x5.2))) (R4 (x5.1,x5.2))
def q49_J2 (s0:Sl) (K1:(Sl×Int×Sl×Bool)→PT) (p2:Addr) (x16:Int×Int):PT :=
 ld .B (Addr.add p2 2) fun (b17:Bool)=>cnd (!b17) (K1 (⟨none,0,0⟩,(0:Int),⟨none,0,0⟩,false)) (cnd (!decide (x16.2=(0:Int))) (K1 (⟨none,0,0⟩,(0:Int),⟨none,0,0⟩,false)) (ld .S (Addr.add p2 3) fun (s18:Sl)=>cnd (decide ((256:Int)<(s18.l:Int))) (K1 (⟨none,0,0⟩,(0:Int),⟨none,0,0⟩,false)) (drw<|ld .S (Addr.add p2 3) fun (s19:Sl)=>ld (.I .i64) (Addr.add p2 1) fun (n20:Int)=>req ((8:Int)≠0)<|slc 1 s0 (some (quoI .i64 (IntKind.wrap .i64 (n20+(7:Int))) (8:Int))) none none fun (s21:Sl)=>nw [] 5 fun (p22:Addr)=>kp [((Addr.add p2 1),(.int .i64 n20)),((Addr.add p2 3),(.slice s19.a s19.l s19.c))]<|app z5 5 1 ⟨(some p22),0,0⟩ s21 fun (s23:Sl)=>kp [((Addr.add p2 3),(.slice s19.a s19.l s19.c))]<|K1 (s19,x16.1,s23,true))))
def q49 (s0:Sl) (K1:(Sl×Int×Sl×Bool)→PT):PT :=
 nw [(.slice s0.a s0.l s0.c),(.int .i64 (0:Int)),(.bool true),(.slice none 0 0)] 148 fun (p2:Addr)=>callP Tryd.prog 67 #[(.pointer (some p2)),(.int .i64 (4:Int))] [.c (.I .i64)] fun (r3:Int)=>req (0≤(IntKind.wrap .i64 (r3+(5:Int))))<|cnd (decide ((15:Int)<(IntKind.wrap .i64 (r3+(5:Int))))) (K1 (⟨none,0,0⟩,(0:Int),⟨none,0,0⟩,false)) (joinP (fun R4=>loopP ((IntKind.wrap .i64 (r3+(5:Int))),(shlI .i64 (1:Int) (IntKind.wrap .i64 (r3+(5:Int))))) (q49_L1 K1 p2 R4)) (q49_J2 s0 K1 p2))
def h49:Hint:=⟨(.n (.n .e 63 ([(3,.c (.I .i64)),(7,.c (.I .i64))],[6,0]) .e) 252 ([(3,.c (.I .i64)),(7,.c (.I .i64))],[6,0]) (.n .e 16151 ([(7,.c (.I .i64))],[8,6,0,3]) .e)),.e⟩
theorem q49_eq (s0:Sl) (K1:(Sl×Int×Sl×Bool)→PT):fnE Cx h49 [.c .S,.c (.I .i64),.c .S,.c .B] Tryd.f49 [.v (.slice s0.a s0.l s0.c)] K1=q49 s0 K1:=by kernel_rfl
theorem q49_fnok:fnOk Tryd.f49 1=true:=by kernel_rfl
theorem q49_ok (s0:Sl) (K1:(Sl×Int×Sl×Bool)→PT) {w:World} (h:q49 s0 K1 w):Calls Tryd.prog 49 #[(.slice s0.a s0.l s0.c)] w fun e w'=>∃r,e = .returned (resMk [.c .S,.c (.I .i64),.c .S,.c .B] r)∧K1 r w' :=
 of_eq Tryd.func49 q49_fnok (by kernel_rfl) (by kernel_rfl) (q49_eq s0 K1) h
def q50 (s0:Sl) (o1:Option Addr) (b2:Bool) (K3:(Sl×Bool×Value)→PT):PT :=
 cnd b2 (callP Tryd.prog 70 #[(.slice s0.a s0.l s0.c),(.pointer o1)] [.c .S,.c .B,.c .V] fun (r4:Sl×Bool×Value)=>K3 (r4.1,r4.2.1,r4.2.2)) (callP Tryd.prog 71 #[(.slice s0.a s0.l s0.c),(.pointer o1)] [.c .S,.c .B,.c .V] fun (r5:Sl×Bool×Value)=>K3 (r5.1,r5.2.1,r5.2.2))
def h50:Hint:=⟨.e,.e⟩
theorem q50_eq (s0:Sl) (o1:Option Addr) (b2:Bool) (K3:(Sl×Bool×Value)→PT):fnE Cx h50 [.c .S,.c .B,.c .V] Tryd.f50 [.v (.slice s0.a s0.l s0.c),.v (.pointer o1),.v (.bool b2)] K3=q50 s0 o1 b2 K3:=by kernel_rfl
theorem q50_fnok:fnOk Tryd.f50 3=true:=by kernel_rfl
theorem q50_ok (s0:Sl) (o1:Option Addr) (b2:Bool) (K3:(Sl×Bool×Value)→PT) {w:World} (h:q50 s0 o1 b2 K3 w):Calls Tryd.prog 50 #[(.slice s0.a s0.l s0.c),(.pointer o1),(.bool b2)] w fun e w'=>∃r,e = .returned (resMk [.c .S,.c .B,.c .V] r)∧K3 r w' :=
 of_eq Tryd.func50 q50_fnok (by kernel_rfl) (by kernel_rfl) (q50_eq s0 o1 b2 K3) h
def q51 (v0:Value) (K1:Int→PT):PT :=
 req (isIf v0=true)<|cnd (isNil v0) (K1 (0:Int)) (ld .V ⟨0,0,none⟩ fun (v2:Value)=>eqE Cx 68 v0 v2 fun (b3:Bool)=>cnd b3 (K1 (1:Int)) (ld .V ⟨1,0,none⟩ fun (v4:Value)=>eqE Cx 68 v0 v4 fun (b5:Bool)=>cnd b5 (K1 (2:Int)) (ld .V ⟨2,0,none⟩ fun (v6:Value)=>eqE Cx 68 v0 v6 fun (b7:Bool)=>cnd b7 (K1 (3:Int)) (K1 (4:Int)))))
def h51:Hint:=⟨.e,.e⟩
theorem q51_eq (v0:Value) (K1:Int→PT):fnE Cx h51 [.c (.I .i64)] Tryd.f51 [.v v0] K1=q51 v0 K1:=by kernel_rfl
theorem q51_fnok:fnOk Tryd.f51 1=true:=by kernel_rfl
theorem q51_ok (v0:Value) (K1:Int→PT) {w:World} (h:q51 v0 K1 w):Calls Tryd.prog 51 #[v0] w fun e w'=>∃r,e = .returned (resMk [.c (.I .i64)] r)∧K1 r w' :=
 of_eq Tryd.func51 q51_fnok (by kernel_rfl) (by kernel_rfl) (q51_eq v0 K1) h
def q57_J0 (x4:(Int×Int)) (A5:(Int×Int)→PT) (x9:Int):PT :=
 A5 ((IntKind.wrap .i64 (x4.1+x9)),(IntKind.wrap .i64 (x4.2+(1:Int))))
def q57_L1 (s0:Sl) (R3:Int→PT) (x4:Int×Int) (A5:(Int×Int)→PT):PT :=
 cnd (decide (x4.2<(s0.l:Int))) (ixS 1 s0 x4.2 fun (p6:Addr)=>ld (.I .i64) p6 fun (n7:Int)=>joinP (fun R8=>cnd (decide (n7<(0:Int))) (R8 (1:Int)) (R8 n7)) (q57_J0 x4 A5)) (R3 x4.1)
def q57_J2 (n1:Int) (s12:Sl) (s13:Sl) (x15:(Int)) (A16:Int→PT) (n18:Int) (x22:Int):PT :=
 ixS 1 s12 n18 fun (p23:Addr)=>ld (.I .i64) p23 fun (n24:Int)=>ixS 1 s12 n18 fun (p25:Addr)=>ld (.I .i64) p25 fun (n26:Int)=>ixS 1 s12 n18 fun (p27:Addr)=>st p27 (.int .i64 (IntKind.wrap .i64 (n26+(1:Int))))<|callP Tryd.prog 44 #[(.int .i64 (IntKind.wrap .i64 (x22+n24)))] [.c (.I .i64)] fun (r28:Int)=>req (0≤(IntKind.wrap .i64 (n1-r28)))<|ixS 3 s13 x15 fun (p29:Addr)=>stL p29 0 [(.int .i64 n18),(.int .i64 (IntKind.wrap .i64 (n1-r28))),(.int .i64 (IntKind.wrap .i64 ((shlI .i64 (IntKind.wrap .i64 (x22+n24)) (IntKind.wrap .i64 (n1-r28)))-(shlI .i64 (1:Int) n1))))]<|A16 (IntKind.wrap .i64 (x15+(1:Int)))
def q57_L3 (s0:Sl) (n1:Int) (K2:(Sl×Bool)→PT) (r11:Sl) (s12:Sl) (s13:Sl) (R14:Unit→PT) (x15:Int) (A16:Int→PT):PT :=
 cnd (decide (x15<(r11.l:Int))) (ixS 1 r11 x15 fun (p17:Addr)=>ld (.I .i64) p17 fun (n18:Int)=>cnd (decide (n18<(0:Int))) (K2 (⟨none,0,0⟩,false)) (ixS 1 s0 n18 fun (p19:Addr)=>ld (.I .i64) p19 fun (n20:Int)=>joinP (fun R21=>cnd (decide (n20<(0:Int))) (R21 (1:Int)) (R21 n20)) (q57_J2 n1 s12 s13 x15 A16 n18))) (R14 ())
def q57_J4 (K2:(Sl×Bool)→PT) (s13:Sl) (x30:Unit):PT :=
 K2 (s13,true)
def q57_J5 (s0:Sl) (n1:Int) (K2:(Sl×Bool)→PT) (x10:Int):PT :=
 cnd (!decide (x10=(shlI .i64 (1:Int) n1))) (K2 (⟨none,0,0⟩,false)) (callP Tryd.prog 75 #[(.slice s0.a s0.l s0.c),(.int .i64 n1)] [.c .S] fun (r11:Sl)=>cnd (Option.isNone r11.a) (K2 (⟨none,0,0⟩,false)) (mks z3 3 8 (s0.l:Int) (s0.l:Int) fun (s12:Sl)=>mks z113 113 24 (shlI .i64 (1:Int) n1) (shlI .i64 (1:Int) n1) fun (s13:Sl)=>joinP (fun R14=>loopP (0:Int) (q57_L3 s0 n1 K2 r11 s12 s13 R14)) (q57_J4 K2 s13)))
def q57 (s0:Sl) (n1:Int) (K2:(Sl×Bool)→PT):PT :=
 req (0≤n1)<|joinP (fun R3=>loopP ((0:Int),(0:Int)) (q57_L1 s0 R3)) (q57_J5 s0 n1 K2)
def h57:Hint:=⟨(.n (.n (.n .e 15 ([(7,.c (.I .i64))],[0,1,6]) .e) 122 ([(7,.c (.I .i64)),(22,.c (.I .i64))],[20,0,1,6,21]) (.n .e 1023 ([],[12]) .e)) 7833 ([(9,.c (.I .i64))],[7,22,20,0,1,6,21]) (.n (.n .e 8186 ([(47,.c (.I .i64))],[0,11,1,12,6,45,46]) .e) 2095719 ([(15,.c (.I .i64))],[13,14,47,0,11,1,12,6,45,46]) .e)),.e⟩
theorem q57_eq (s0:Sl) (n1:Int) (K2:(Sl×Bool)→PT):fnE Cx h57 [.c .S,.c .B] Tryd.f57 [.v (.slice s0.a s0.l s0.c),.v (.int .i64 n1)] K2=q57 s0 n1 K2:=by kernel_rfl
theorem q57_fnok:fnOk Tryd.f57 2=true:=by kernel_rfl
theorem q57_ok (s0:Sl) (n1:Int) (K2:(Sl×Bool)→PT) {w:World} (h:q57 s0 n1 K2 w):Calls Tryd.prog 57 #[(.slice s0.a s0.l s0.c),(.int .i64 n1)] w fun e w'=>∃r,e = .returned (resMk [.c .S,.c .B] r)∧K2 r w' :=
 of_eq Tryd.func57 q57_fnok (by kernel_rfl) (by kernel_rfl) (q57_eq s0 n1 K2) h
def q58 (s0:Sl) (n1:Int) (K2:(Option Addr×(Int×Int)×Bool)→PT):PT :=
 nw z109 109 fun (p3:Addr)=>callP Tryd.prog 72 #[(.slice s0.a s0.l s0.c)] [.c .P,.c .B] fun (r4:Option Addr×Bool)=>cnd (!r4.2) (stL p3 0 [(.int .i64 (0:Int)),(.int .i64 (0:Int))]<|ldL [(.I .i64),(.I .i64)] p3 0 fun (r5:(Int×Int))=>K2 ((none:Option Addr),(r5.1,r5.2),false)) (callP Tryd.prog 59 #[(.pointer r4.1),(.int .i64 n1)] [.c (.I .i64)] fun (r6:Int)=>callP Tryd.prog 59 #[(.pointer r4.1),(.int .i64 n1)] [.c (.I .i64)] fun (r7:Int)=>drw<|nz r4.1 fun (p8:Addr)=>ld (.I .i64) (Addr.add p8 1) fun (n9:Int)=>stL p3 0 [(.int .i64 r6),(.int .i64 r7)]<|kp [((Addr.add p8 1),(.int .i64 n9))]<|ldL [(.I .i64),(.I .i64)] p3 0 fun (r10:(Int×Int))=>K2 (r4.1,(r10.1,r10.2),(decide ((0:Int)≤n9))))
def h58:Hint:=⟨.e,.e⟩
theorem q58_eq (s0:Sl) (n1:Int) (K2:(Option Addr×(Int×Int)×Bool)→PT):fnE Cx h58 [.c .P,.m [(.I .i64),(.I .i64)],.c .B] Tryd.f58 [.v (.slice s0.a s0.l s0.c),.v (.int .i64 n1)] K2=q58 s0 n1 K2:=by kernel_rfl
theorem q58_fnok:fnOk Tryd.f58 2=true:=by kernel_rfl
theorem q58_ok (s0:Sl) (n1:Int) (K2:(Option Addr×(Int×Int)×Bool)→PT) {w:World} (h:q58 s0 n1 K2 w):Calls Tryd.prog 58 #[(.slice s0.a s0.l s0.c),(.int .i64 n1)] w fun e w'=>∃r,e = .returned (resMk [.c .P,.m [(.I .i64),(.I .i64)],.c .B] r)∧K2 r w' :=
 of_eq Tryd.func58 q58_fnok (by kernel_rfl) (by kernel_rfl) (q58_eq s0 n1 K2) h
def q59_L0 (p0:Addr) (n1:Int) (R3:Int→PT) (x4:Int×Int) (A5:(Int×Int)→PT):PT :=
 cnd (decide (x4.2<n1)) (ld (.I .i64) (Addr.add p0 1) fun (n6:Int)=>st (Addr.add p0 1) (.int .i64 (IntKind.wrap .i64 (n6-(1:Int))))<|drw<|ld .S p0 fun (s7:Sl)=>ld (.I .i64) (Addr.add p0 1) fun (n8:Int)=>callP Tryd.prog 76 #[(.slice s7.a s7.l s7.c),(.int .i64 n8)] [.c (.I .i64),.c .B] fun (r9:Int×Bool)=>A5 ((IntKind.wrap .i64 ((IntKind.wrap .i64 ((2:Int)*x4.1))+r9.1)),(IntKind.wrap .i64 (x4.2+(1:Int))))) (R3 x4.1)
def q59_J1 (K2:Int→PT) (x10:Int):PT :=
 K2 x10
def q59 (p0:Addr) (n1:Int) (K2:Int→PT):PT :=
 joinP (fun R3=>loopP ((0:Int),(0:Int)) (q59_L0 p0 n1 R3)) (q59_J1 K2)
def h59:Hint:=⟨(.n (.n .e 7 ([(5,.c (.I .i64))],[]) .e) 58 ([(5,.c (.I .i64)),(9,.c (.I .i64))],[0,8]) .e),.e⟩
theorem q59_eq (p0:Addr) (n1:Int) (K2:Int→PT):fnE Cx h59 [.c (.I .i64)] Tryd.f59 [.pt p0,.v (.int .i64 n1)] K2=q59 p0 n1 K2:=by kernel_rfl
theorem q59_fnok:fnOk Tryd.f59 2=true:=by kernel_rfl
theorem q59_ok (p0:Addr) (n1:Int) (K2:Int→PT) {w:World} (h:q59 p0 n1 K2 w):Calls Tryd.prog 59 #[(.pointer (some p0)),(.int .i64 n1)] w fun e w'=>∃r,e = .returned (resMk [.c (.I .i64)] r)∧K2 r w' :=
 of_eq Tryd.func59 q59_fnok (by kernel_rfl) (by kernel_rfl) (q59_eq p0 n1 K2) h
def q60_L0 (s1:Sl) (n3:Int) (K4:(Sl×Bool)→PT) (r5:Option Addr×(Int×Int)×Bool) (p6:Addr) (x7:Sl×Int) (A8:(Sl×Int)→PT):PT :=
 ixA 1 2 p6 x7.2 fun (p9:Addr)=>ld (.I .i64) p9 fun (n10:Int)=>ixS 3 s1 n10 fun (p11:Addr)=>ldL [(.I .i64),(.I .i64),(.I .i64)] p11 0 fun (r12:(Int×Int×Int))=>nw z113 113 fun (p13:Addr)=>stL p13 0 [(.int .i64 r12.1),(.int .i64 r12.2.1),(.int .i64 r12.2.2)]<|ld (.I .i64) p13 fun (n14:Int)=>nw [(.int .u8 (IntKind.wrap .u8 n14))] 5 fun (p15:Addr)=>app z5 5 1 x7.1 ⟨(some p15),1,1⟩ fun (s16:Sl)=>cnd (decide (n3<(s16.l:Int))) (K4 (⟨none,0,0⟩,false)) (ld (.I .i64) (Addr.add p13 1) fun (n17:Int)=>callP Tryd.prog 59 #[(.pointer r5.1),(.int .i64 n17)] [.c (.I .i64)] fun (r18:Int)=>nz r5.1 fun (p19:Addr)=>ld (.I .i64) (Addr.add p19 1) fun (n20:Int)=>cnd (decide (n20<(0:Int))) (ixA 1 2 p6 (IntKind.wrap .i64 ((1:Int)-x7.2)) fun (p21:Addr)=>ld (.I .i64) p21 fun (n22:Int)=>ixS 3 s1 n22 fun (p23:Addr)=>ld (.I .i64) p23 fun (n24:Int)=>nw [(.int .u8 (IntKind.wrap .u8 n24))] 5 fun (p25:Addr)=>app z5 5 1 s16 ⟨(some p25),1,1⟩ fun (s26:Sl)=>K4 (s26,(decide ((s26.l:Int)≤n3)))) (ld (.I .i64) (Addr.add p13 2) fun (n27:Int)=>ixA 1 2 p6 x7.2 fun (p28:Addr)=>st p28 (.int .i64 (IntKind.wrap .i64 (n27+r18)))<|ixA 1 2 p6 x7.2 fun (p29:Addr)=>ld (.I .i64) p29 fun (n30:Int)=>cnd (decide (n30<(0:Int))) (K4 (⟨none,0,0⟩,false)) (ixA 1 2 p6 x7.2 fun (p31:Addr)=>ld (.I .i64) p31 fun (n32:Int)=>cnd (decide ((s1.l:Int)≤n32)) (K4 (⟨none,0,0⟩,false)) (A8 (s16,(IntKind.wrap .i64 ((1:Int)-x7.2)))))))
def q60 (s0:Sl) (s1:Sl) (n2:Int) (n3:Int) (K4:(Sl×Bool)→PT):PT :=
 callP Tryd.prog 58 #[(.slice s0.a s0.l s0.c),(.int .i64 n2)] [.c .P,.m [(.I .i64),(.I .i64)],.c .B] fun (r5:Option Addr×(Int×Int)×Bool)=>nw z109 109 fun (p6:Addr)=>stL p6 0 [(.int .i64 r5.2.1.1),(.int .i64 r5.2.1.2)]<|cnd (!r5.2.2) (K4 (⟨none,0,0⟩,false)) (loopP (⟨none,0,0⟩,(0:Int)) (q60_L0 s1 n3 K4 r5 p6))
def h60:Hint:=⟨(.n .e 126 ([(13,.c .S),(14,.c (.I .i64))],[10,1,11,3]) .e),.e⟩
theorem q60_eq (s0:Sl) (s1:Sl) (n2:Int) (n3:Int) (K4:(Sl×Bool)→PT):fnE Cx h60 [.c .S,.c .B] Tryd.f60 [.v (.slice s0.a s0.l s0.c),.v (.slice s1.a s1.l s1.c),.v (.int .i64 n2),.v (.int .i64 n3)] K4=q60 s0 s1 n2 n3 K4:=by kernel_rfl
theorem q60_fnok:fnOk Tryd.f60 4=true:=by kernel_rfl
theorem q60_ok (s0:Sl) (s1:Sl) (n2:Int) (n3:Int) (K4:(Sl×Bool)→PT) {w:World} (h:q60 s0 s1 n2 n3 K4 w):Calls Tryd.prog 60 #[(.slice s0.a s0.l s0.c),(.slice s1.a s1.l s1.c),(.int .i64 n2),(.int .i64 n3)] w fun e w'=>∃r,e = .returned (resMk [.c .S,.c .B] r)∧K4 r w' :=
 of_eq Tryd.func60 q60_fnok (by kernel_rfl) (by kernel_rfl) (q60_eq s0 s1 n2 n3 K4) h
def q61_L0 (x6:(Addr)) (R24:Unit→PT) (x25:Int) (A26:Int→PT):PT :=
 cnd (decide (x25<(256:Int))) (ixA 1 256 x6 x25 fun (p27:Addr)=>st p27 (.int .u32 (0:Int))<|A26 (IntKind.wrap .i64 (x25+(1:Int)))) (R24 ())
def q61_J1 (x6:(Addr)) (R21:Unit→PT) (x28:Unit):PT :=
 st (Addr.add x6 267) (.bool false)<|R21 ()
def q61_J2 (s1:Sl) (K2:(Option Addr×Value)→PT) (x6:(Addr)) (x45:Unit):PT :=
 st (Addr.add x6 260) (.int .i64 (s1.l:Int))<|K2 ((some x6),.nilIface)
def q61_J3 (s1:Sl) (K2:(Option Addr×Value)→PT) (x6:(Addr)) (x39:Unit):PT :=
 ld .S (Addr.add x6 273) fun (s40:Sl)=>slc 1 s40 none (some (0:Int)) none fun (s41:Sl)=>st (Addr.add x6 273) (.slice s41.a s41.l s41.c)<|joinP (fun R42=>ld .P (Addr.add x6 278) fun (o43:Option Addr)=>cnd (Option.isNone o43) (nwA ⟨z134⟩ 134 fun (p44:Addr)=>st (Addr.add x6 278) (.pointer (some p44))<|R42 ()) (R42 ())) (q61_J2 s1 K2 x6)
def q61_J4 (s1:Sl) (K2:(Option Addr×Value)→PT) (x6:(Addr)) (x33:Unit):PT :=
 ld .S (Addr.add x6 256) fun (s34:Sl)=>slc 1 s34 none (some (0:Int)) none fun (s35:Sl)=>st (Addr.add x6 256) (.slice s35.a s35.l s35.c)<|st (Addr.add x6 257) (.slice none 0 0)<|st (Addr.add x6 258) (.slice none 0 0)<|joinP (fun R36=>ld .S (Addr.add x6 273) fun (s37:Sl)=>cnd (decide ((s37.c:Int)<(513:Int))) (mks z196 196 8 (0:Int) (513:Int) fun (s38:Sl)=>st (Addr.add x6 273) (.slice s38.a s38.l s38.c)<|R36 ()) (R36 ())) (q61_J3 s1 K2 x6)
def q61_J5 (s1:Sl) (K2:(Option Addr×Value)→PT) (x6:(Addr)) (x29:Unit):PT :=
 joinP (fun R30=>ld .S (Addr.add x6 256) fun (s31:Sl)=>cnd (decide ((s31.c:Int)=(0:Int))) (mks z5 5 1 (0:Int) (s1.l:Int) fun (s32:Sl)=>st (Addr.add x6 256) (.slice s32.a s32.l s32.c)<|R30 ()) (R30 ())) (q61_J4 s1 K2 x6)
def q61_J6 (s1:Sl) (K2:(Option Addr×Value)→PT) (x6:(Addr)) (x20:Unit):PT :=
 joinP (fun R21=>ld .B (Addr.add x6 267) fun (b22:Bool)=>cnd b22 (ld (.I .i64) (Addr.add x6 266) fun (n23:Int)=>cnd (decide (n23=(0:Int))) (joinP (fun R24=>loopP (0:Int) (q61_L0 x6 R24)) (q61_J1 x6 R21)) (R21 ())) (R21 ())) (q61_J5 s1 K2 x6)
def q61_J7 (s1:Sl) (K2:(Option Addr×Value)→PT) (x6:(Addr)) (x12:Unit):PT :=
 ld (.I .u8) (Addr.add x6 262) fun (n13:Int)=>cnd (decide ((11:Int)<n13)) (callP Tryd.prog 62 #[(.string ⟨#[105,110,118,97,108,105,100,32,116,97,98,108,101,76,111,103,32,45]⟩)] [.c .V] fun (r14:Value)=>K2 ((none:Option Addr),r14)) (ld (.I .u8) (Addr.add x6 262) fun (n15:Int)=>cnd (decide (n15<(5:Int))) (callP Tryd.prog 62 #[(.string ⟨#[105,110,118,97,108,105,100,32,116,97,98,108,101,76,111,103,32,45]⟩)] [.c .V] fun (r16:Value)=>K2 ((none:Option Addr),r16)) (joinP (fun R17=>ld (.I .i64) (Addr.add x6 259) fun (n18:Int)=>cnd (decide (n18≤(0:Int))) (st (Addr.add x6 259) (.int .i64 (262143:Int))<|R17 ()) (ld (.I .i64) (Addr.add x6 259) fun (n19:Int)=>cnd (decide ((262143:Int)<n19)) (st (Addr.add x6 259) (.int .i64 (262143:Int))<|R17 ()) (R17 ()))) (q61_J6 s1 K2 x6)))
def q61_J8 (s1:Sl) (K2:(Option Addr×Value)→PT) (x6:(Addr)) (x9:Unit):PT :=
 joinP (fun R10=>ld (.I .u8) (Addr.add x6 262) fun (n11:Int)=>cnd (decide (n11=(0:Int))) (st (Addr.add x6 262) (.int .u8 (11:Int))<|R10 ()) (R10 ())) (q61_J7 s1 K2 x6)
def q61_J9 (s1:Sl) (K2:(Option Addr×Value)→PT) (x6:Addr):PT :=
 joinP (fun R7=>ld (.I .u8) (Addr.add x6 261) fun (n8:Int)=>cnd (decide (n8=(0:Int))) (st (Addr.add x6 261) (.int .u8 (255:Int))<|R7 ()) (R7 ())) (q61_J8 s1 K2 x6)
def q61 (p0:Addr) (s1:Sl) (K2:(Option Addr×Value)→PT):PT :=
 cnd (decide ((262143:Int)<(s1.l:Int))) (drw<|ld .V ⟨2,0,none⟩ fun (v3:Value)=>K2 ((none:Option Addr),v3)) (joinP (fun R4=>cnd (Option.isNone (some p0)) (nwA ⟨z94⟩ 94 fun (p5:Addr)=>R4 p5) (R4 p0)) (q61_J9 s1 K2))
def h61:Hint:=⟨(.n (.n (.n (.n .e 7 ([(0,.q)],[1]) .e) 15 ([],[1,0]) .e) 31 ([],[1,0]) (.n (.n .e 127 ([],[0,1]) .e) 255 ([],[1,0]) .e)) 511 ([],[1,0]) (.n (.n (.n .e 2042 ([],[1,0]) .e) 8191 ([],[1,0]) .e) 16338 ([(70,.c (.I .i64))],[0,1]) (.n .e 32767 ([],[1,0]) .e))),.e⟩
theorem q61_eq (p0:Addr) (s1:Sl) (K2:(Option Addr×Value)→PT):fnE Cx h61 [.c .P,.c .V] Tryd.f61 [.pt p0,.v (.slice s1.a s1.l s1.c)] K2=q61 p0 s1 K2:=by kernel_rfl
theorem q61_fnok:fnOk Tryd.f61 2=true:=by kernel_rfl
theorem q61_ok (p0:Addr) (s1:Sl) (K2:(Option Addr×Value)→PT) {w:World} (h:q61 p0 s1 K2 w):Calls Tryd.prog 61 #[(.pointer (some p0)),(.slice s1.a s1.l s1.c)] w fun e w'=>∃r,e = .returned (resMk [.c .P,.c .V] r)∧K2 r w' :=
 of_eq Tryd.func61 q61_fnok (by kernel_rfl) (by kernel_rfl) (q61_eq p0 s1 K2) h
def q62 (t0:ByteArray) (K1:(Value)→PT):PT :=
 nw [(.string t0)] 162 fun (p2:Addr)=>K1 (.iface 160 (.pointer (some p2)))
def h62:Hint:=⟨.e,.e⟩
theorem q62_eq (t0:ByteArray) (K1:(Value)→PT):fnE Cx h62 [.c .V] Tryd.f62 [.v (.string t0)] K1=q62 t0 K1:=by kernel_rfl
theorem q62_fnok:fnOk Tryd.f62 1=true:=by kernel_rfl
theorem q62_ok (t0:ByteArray) (K1:(Value)→PT) {w:World} (h:q62 t0 K1 w):Calls Tryd.prog 62 #[(.string t0)] w fun e w'=>∃r,e = .returned (resMk [.c .V] r)∧K1 r w' :=
 of_eq Tryd.func62 q62_fnok (by kernel_rfl) (by kernel_rfl) (q62_eq t0 K1) h
def q64 (n0:Int) (K1:Int→PT):PT :=
 callP Tryd.prog 81 #[(.int .u32 n0)] [.c (.I .i64)] fun (r2:Int)=>K1 (IntKind.wrap .u32 (IntKind.wrap .i64 (r2-(1:Int))))
def h64:Hint:=⟨.e,.e⟩
theorem q64_eq (n0:Int) (K1:Int→PT):fnE Cx h64 [.c (.I .u32)] Tryd.f64 [.v (.int .u32 n0)] K1=q64 n0 K1:=by kernel_rfl
theorem q64_fnok:fnOk Tryd.f64 1=true:=by kernel_rfl
theorem q64_ok (n0:Int) (K1:Int→PT) {w:World} (h:q64 n0 K1 w):Calls Tryd.prog 64 #[(.int .u32 n0)] w fun e w'=>∃r,e = .returned (resMk [.c (.I .u32)] r)∧K1 r w' :=
 of_eq Tryd.func64 q64_fnok (by kernel_rfl) (by kernel_rfl) (q64_eq n0 K1) h
def q65_L0 (p3:Addr) (n5:Int) (R11:Unit→PT) (x12:Int) (A13:Int→PT):PT :=
 cnd (decide (x12<(IntKind.wrap .u8 (n5+(1:Int))))) (ixA 1 12 p3 x12 fun (p14:Addr)=>st p14 (.int .u8 (IntKind.wrap .u8 ((IntKind.wrap .u8 (n5+(1:Int)))-x12)))<|A13 (IntKind.wrap .u8 (x12+(1:Int)))) (R11 ())
def q65_L1 (s19:Sl) (R20:Unit→PT) (s21:Sl) (x22:Int) (A23:Int→PT):PT :=
 cnd (decide (x22<(s21.l:Int))) (ixS 1 s19 x22 fun (p24:Addr)=>st p24 (.int .u32 (0:Int))<|A23 (IntKind.wrap .i64 (x22+(1:Int)))) (R20 ())
def q65_L2 (s0:Sl) (p3:Addr) (n7:Int) (s9:Sl) (s19:Sl) (R26:Unit→PT) (x27:Int) (A28:Int→PT):PT :=
 cnd (decide (x27<(IntKind.wrap .u8 (IntKind.wrap .u16 (n7-(1:Int)))))) (ixS 2 s0 x27 fun (p29:Addr)=>ld (.I .u8) (Addr.add p29 1) fun (n30:Int)=>ixA 1 12 p3 n30 fun (p31:Addr)=>ld (.I .u8) p31 fun (n32:Int)=>ixS 1 s9 x27 fun (p33:Addr)=>st p33 (.int .u8 (andI .u8 n32 (15:Int)))<|ixS 1 s19 (andI .u8 n32 (15:Int)) fun (p34:Addr)=>ld (.I .u32) p34 fun (n35:Int)=>ixS 1 s19 (andI .u8 n32 (15:Int)) fun (p36:Addr)=>st p36 (.int .u32 (IntKind.wrap .u32 (n35+(1:Int))))<|A28 (IntKind.wrap .u8 (x27+(1:Int)))) (R26 ())
def q65_J3 (x41:(Int×Int×Int)) (A42:(Int×Int×Int)→PT) (x46:Int×Int):PT :=
 A42 (x46.1,x46.2,(IntKind.wrap .i64 (x41.2.2+(1:Int))))
def q65_L4 (R39:Int×Int→PT) (s40:Sl) (x41:Int×Int×Int) (A42:(Int×Int×Int)→PT):PT :=
 cnd (decide (x41.2.2<(s40.l:Int))) (joinP (fun R43=>ixS 1 s40 x41.2.2 fun (p44:Addr)=>ld (.I .u32) p44 fun (n45:Int)=>cnd (decide (n45=(0:Int))) (R43 (x41.1,x41.2.1)) (cnd (decide (x41.1<n45)) (R43 (n45,(IntKind.wrap .u8 x41.2.2))) (R43 (x41.1,(IntKind.wrap .u8 x41.2.2))))) (q65_J3 x41 A42)) (R39 (x41.1,x41.2.1))
def q65_J5 (o1:Option Addr) (K2:(Value)→PT) (n7:Int) (s9:Sl) (R38:Unit→PT) (x47:Int×Int):PT :=
 nz o1 fun (p48:Addr)=>ld .P (Addr.add p48 278) fun (o49:Option Addr)=>callP Tryd.prog 83 #[(.pointer o49),(.int .u8 x47.2),(.int .i64 (IntKind.wrap .i64 x47.1))] [] fun (r50:Unit)=>nz o1 fun (p51:Addr)=>ld .P (Addr.add p51 278) fun (o52:Option Addr)=>nz o52 fun (p53:Addr)=>st (Addr.add p53 533) (.int .u8 (6:Int))<|drw<|slc 1 s9 none (some (IntKind.wrap .u8 (IntKind.wrap .u16 (n7-(1:Int))))) none fun (s54:Sl)=>nz o1 fun (p55:Addr)=>ld .P (Addr.add p55 278) fun (o56:Option Addr)=>callP Tryd.prog 84 #[(.slice s54.a s54.l s54.c),(.pointer o56)] [.c .S,.c .V] fun (r57:Sl×Value)=>req (isIf r57.2=true)<|cnd (isNil r57.2) (nz o1 fun (p58:Addr)=>ld (.I .u16) (Addr.add p58 265) fun (n59:Int)=>req (0≤(1:Int))<|cnd (decide ((r57.1.l:Int)<(IntKind.wrap .i64 (shrI .u16 n59 (1:Int))))) (nz o1 fun (p60:Addr)=>ld .S (Addr.add p60 256) fun (s61:Sl)=>nw [(.int .u8 (IntKind.wrap .u8 (r57.1.l:Int)))] 5 fun (p62:Addr)=>app z5 5 1 s61 ⟨(some p62),1,1⟩ fun (s63:Sl)=>nz o1 fun (p64:Addr)=>st (Addr.add p64 256) (.slice s63.a s63.l s63.c)<|nz o1 fun (p65:Addr)=>ld .S (Addr.add p65 256) fun (s66:Sl)=>app z5 5 1 s66 r57.1 fun (s67:Sl)=>nz o1 fun (p68:Addr)=>st (Addr.add p68 256) (.slice s67.a s67.l s67.c)<|K2 .nilIface) (R38 ())) (R38 ())
def q65_L6 (n7:Int) (s9:Sl) (R76:Sl→PT) (x77:Sl×Int) (A78:(Sl×Int)→PT):PT :=
 cnd (decide (x77.2<(IntKind.wrap .u16 (IntKind.wrap .u8 (IntKind.wrap .u16 (n7-(1:Int))))))) (drw<|ixS 1 s9 x77.2 fun (p79:Addr)=>ld (.I .u8) p79 fun (n80:Int)=>req (0≤(4:Int))<|ixS 1 s9 (IntKind.wrap .u16 (x77.2+(1:Int))) fun (p81:Addr)=>ld (.I .u8) p81 fun (n82:Int)=>nw [(.int .u8 (orI .u8 (shlI .u8 n80 (4:Int)) n82))] 5 fun (p83:Addr)=>app z5 5 1 x77.1 ⟨(some p83),1,1⟩ fun (s84:Sl)=>A78 (s84,(IntKind.wrap .u16 (x77.2+(2:Int))))) (R76 x77.1)
def q65_J7 (o1:Option Addr) (K2:(Value)→PT) (x85:Sl):PT :=
 nz o1 fun (p86:Addr)=>st (Addr.add p86 256) (.slice x85.a x85.l x85.c)<|K2 .nilIface
def q65_J8 (o1:Option Addr) (K2:(Value)→PT) (n7:Int) (s9:Sl) (x69:Unit):PT :=
 cnd (decide ((128:Int)<(IntKind.wrap .u8 (IntKind.wrap .u16 (n7-(1:Int)))))) (ld .V ⟨0,0,none⟩ fun (v70:Value)=>K2 v70) (nz o1 fun (p71:Addr)=>ld .S (Addr.add p71 256) fun (s72:Sl)=>nw [(.int .u8 (orI .u8 (128:Int) (IntKind.wrap .u8 ((IntKind.wrap .u8 (IntKind.wrap .u16 (n7-(1:Int))))-(1:Int)))))] 5 fun (p73:Addr)=>app z5 5 1 s72 ⟨(some p73),1,1⟩ fun (s74:Sl)=>ixS 1 s9 (IntKind.wrap .u8 (IntKind.wrap .u16 (n7-(1:Int)))) fun (p75:Addr)=>st p75 (.int .u8 (0:Int))<|joinP (fun R76=>loopP (s74,(0:Int)) (q65_L6 n7 s9 R76)) (q65_J7 o1 K2))
def q65_J9 (o1:Option Addr) (K2:(Value)→PT) (n7:Int) (s9:Sl) (s19:Sl) (x37:Unit):PT :=
 joinP (fun R38=>cnd (decide ((2:Int)≤(IntKind.wrap .u8 (IntKind.wrap .u16 (n7-(1:Int)))))) (joinP (fun R39=>slc 1 s19 none (some (16:Int)) none fun (s40:Sl)=>loopP ((0:Int),(0:Int),(0:Int)) (q65_L4 R39 s40)) (q65_J5 o1 K2 n7 s9 R38)) (R38 ())) (q65_J8 o1 K2 n7 s9)
def q65_J10 (s0:Sl) (o1:Option Addr) (K2:(Value)→PT) (p3:Addr) (n7:Int) (s9:Sl) (s19:Sl) (x25:Unit):PT :=
 joinP (fun R26=>loopP (0:Int) (q65_L2 s0 p3 n7 s9 s19 R26)) (q65_J9 o1 K2 n7 s9 s19)
def q65_J11 (s0:Sl) (o1:Option Addr) (K2:(Value)→PT) (p3:Addr) (n7:Int) (s9:Sl) (x15:Unit):PT :=
 nz o1 fun (p16:Addr)=>ld .P (Addr.add p16 278) fun (o17:Option Addr)=>callP Tryd.prog 82 #[(.pointer o17)] [.c .S] fun (r18:Sl)=>slc 1 r18 none (some (256:Int)) none fun (s19:Sl)=>joinP (fun R20=>slc 1 s19 none (some (16:Int)) none fun (s21:Sl)=>loopP (0:Int) (q65_L1 s19 R20 s21)) (q65_J10 s0 o1 K2 p3 n7 s9 s19)
def q65 (s0:Sl) (o1:Option Addr) (K2:(Value)→PT):PT :=
 nw z167 167 fun (p3:Addr)=>nz o1 fun (p4:Addr)=>ld (.I .u8) (Addr.add p4 268) fun (n5:Int)=>nz o1 fun (p6:Addr)=>ld (.I .u16) (Addr.add p6 265) fun (n7:Int)=>nz o1 fun (p8:Addr)=>slcA 1 256 (Addr.add p8 279) none (some (256:Int)) none fun (s9:Sl)=>ixA 1 12 p3 (0:Int) fun (p10:Addr)=>st p10 (.int .u8 (0:Int))<|joinP (fun R11=>loopP (1:Int) (q65_L0 p3 n5 R11)) (q65_J11 s0 o1 K2 p3 n7 s9)
def h65:Hint:=⟨(.n (.n (.n (.n .e 127 ([],[8,5,0,7,1]) .e) 1018 ([(9,.c (.I .u8))],[5,6,8,0,7,1]) (.n .e 1023 ([],[10,8,5,0,7,1]) .e)) 2047 ([],[10,8,7,1]) (.n (.n .e 4095 ([],[7,1,8]) .e) 8186 ([(59,.c (.I .i64))],[10,8,5,0,7,1,58]) .e)) 16378 ([(67,.c (.I .u8))],[10,8,5,0,7,1,66]) (.n (.n (.n .e 131051 ([(14,.c (.I .u32)),(15,.c (.I .u8))],[8,7,1]) .e) 131071 ([(20,.c .S)],[1]) .e) 1048410 ([(14,.c (.I .u32)),(15,.c (.I .u8)),(94,.c (.I .i64))],[92,8,7,1,93]) (.n (.n .e 1048570 ([(20,.c .S),(21,.c (.I .u16))],[8,1,7]) .e) 8387283 ([(14,.c (.I .u32)),(15,.c (.I .u8))],[94,92,8,7,1,93]) .e))),.e⟩
theorem q65_eq (s0:Sl) (o1:Option Addr) (K2:(Value)→PT):fnE Cx h65 [.c .V] Tryd.f65 [.v (.slice s0.a s0.l s0.c),.v (.pointer o1)] K2=q65 s0 o1 K2:=by kernel_rfl
theorem q65_fnok:fnOk Tryd.f65 2=true:=by kernel_rfl
theorem q65_ok (s0:Sl) (o1:Option Addr) (K2:(Value)→PT) {w:World} (h:q65 s0 o1 K2 w):Calls Tryd.prog 65 #[(.slice s0.a s0.l s0.c),(.pointer o1)] w fun e w'=>∃r,e = .returned (resMk [.c .V] r)∧K2 r w' :=
 of_eq Tryd.func65 q65_fnok (by kernel_rfl) (by kernel_rfl) (q65_eq s0 o1 K2) h
def q67_J0 (p0:Addr) (n1:Int) (K2:Int→PT) (r5:Int×Bool) (x8:Unit):PT :=
 ld (.I .i64) (Addr.add p0 1) fun (n9:Int)=>st (Addr.add p0 1) (.int .i64 (IntKind.wrap .i64 (n9+n1)))<|K2 r5.1
def q67 (p0:Addr) (n1:Int) (K2:Int→PT):PT :=
 drw<|ld .S p0 fun (s3:Sl)=>ld (.I .i64) (Addr.add p0 1) fun (n4:Int)=>callP Tryd.prog 87 #[(.slice s3.a s3.l s3.c),(.int .i64 n4),(.int .i64 n1)] [.c (.I .i64),.c .B] fun (r5:Int×Bool)=>joinP (fun R6=>ld .B (Addr.add p0 2) fun (b7:Bool)=>cnd b7 (st (Addr.add p0 2) (.bool r5.2)<|R6 ()) (st (Addr.add p0 2) (.bool false)<|R6 ())) (q67_J0 p0 n1 K2 r5)
def h67:Hint:=⟨(.n .e 7 ([],[0,1,5]) .e),.e⟩
theorem q67_eq (p0:Addr) (n1:Int) (K2:Int→PT):fnE Cx h67 [.c (.I .i64)] Tryd.f67 [.pt p0,.v (.int .i64 n1)] K2=q67 p0 n1 K2:=by kernel_rfl
theorem q67_fnok:fnOk Tryd.f67 2=true:=by kernel_rfl
theorem q67_ok (p0:Addr) (n1:Int) (K2:Int→PT) {w:World} (h:q67 p0 n1 K2 w):Calls Tryd.prog 67 #[(.pointer (some p0)),(.int .i64 n1)] w fun e w'=>∃r,e = .returned (resMk [.c (.I .i64)] r)∧K2 r w' :=
 of_eq Tryd.func67 q67_fnok (by kernel_rfl) (by kernel_rfl) (q67_eq p0 n1 K2) h
def q68_J0 (K2:Int→PT) (x9:Int):PT :=
 K2 x9
def q68_J1 (n1:Int) (K2:Int→PT) (r3:Int) (x7:Int):PT :=
 joinP (fun R8=>req (0≤(IntKind.wrap .i64 ((IntKind.wrap .i64 (r3+(1:Int)))-(1:Int))))<|cnd (decide ((shlI .i64 (1:Int) (IntKind.wrap .i64 ((IntKind.wrap .i64 (r3+(1:Int)))-(1:Int))))≤x7)) (R8 (IntKind.wrap .i64 (x7-(IntKind.wrap .i64 ((IntKind.wrap .i64 ((shlI .i64 (1:Int) (IntKind.wrap .i64 (r3+(1:Int))))-(1:Int)))-n1))))) (R8 x7)) (q68_J0 K2)
def q68 (p0:Addr) (n1:Int) (K2:Int→PT):PT :=
 callP Tryd.prog 44 #[(.int .i64 n1)] [.c (.I .i64)] fun (r3:Int)=>req (0≤(IntKind.wrap .i64 (r3+(1:Int))))<|callP Tryd.prog 67 #[(.pointer (some p0)),(.int .i64 (IntKind.wrap .i64 ((IntKind.wrap .i64 (r3+(1:Int)))-(1:Int))))] [.c (.I .i64)] fun (r4:Int)=>cnd (decide (r4<(IntKind.wrap .i64 ((IntKind.wrap .i64 ((shlI .i64 (1:Int) (IntKind.wrap .i64 (r3+(1:Int))))-(1:Int)))-n1)))) (K2 r4) (joinP (fun R5=>callP Tryd.prog 67 #[(.pointer (some p0)),(.int .i64 (1:Int))] [.c (.I .i64)] fun (r6:Int)=>cnd (decide (r6=(1:Int))) (req (0≤(IntKind.wrap .i64 ((IntKind.wrap .i64 (r3+(1:Int)))-(1:Int))))<|R5 (IntKind.wrap .i64 (r4+(shlI .i64 (1:Int) (IntKind.wrap .i64 ((IntKind.wrap .i64 (r3+(1:Int)))-(1:Int))))))) (R5 r4)) (q68_J1 n1 K2 r3))
def h68:Hint:=⟨(.n (.n .e 63 ([(7,.c (.I .i64))],[5,6]) .e) 127 ([(7,.c (.I .i64))],[]) .e),.e⟩
theorem q68_eq (p0:Addr) (n1:Int) (K2:Int→PT):fnE Cx h68 [.c (.I .i64)] Tryd.f68 [.pt p0,.v (.int .i64 n1)] K2=q68 p0 n1 K2:=by kernel_rfl
theorem q68_fnok:fnOk Tryd.f68 2=true:=by kernel_rfl
theorem q68_ok (p0:Addr) (n1:Int) (K2:Int→PT) {w:World} (h:q68 p0 n1 K2 w):Calls Tryd.prog 68 #[(.pointer (some p0)),(.int .i64 n1)] w fun e w'=>∃r,e = .returned (resMk [.c (.I .i64)] r)∧K2 r w' :=
 of_eq Tryd.func68 q68_fnok (by kernel_rfl) (by kernel_rfl) (q68_eq p0 n1 K2) h
def q69_L0 (p0:Addr) (r5:Int) (R6:Unit→PT) (x7:Int) (A8:Int→PT):PT :=
 cnd (decide (x7<r5)) (ld .S (Addr.add p0 3) fun (s9:Sl)=>nw [(.int .i64 (0:Int))] 3 fun (p10:Addr)=>app z3 3 8 s9 ⟨(some p10),1,1⟩ fun (s11:Sl)=>st (Addr.add p0 3) (.slice s11.a s11.l s11.c)<|A8 (IntKind.wrap .i64 (x7+(1:Int)))) (R6 ())
def q69_J1 (p0:Addr) (K1:Unit→PT) (A3:Unit→PT) (r5:Int) (x12:Unit):PT :=
 cnd (decide (r5<(3:Int))) (K1 ()) (ld .S (Addr.add p0 3) fun (s13:Sl)=>cnd (decide ((256:Int)<(s13.l:Int))) (K1 ()) (A3 ()))
def q69_L2 (p0:Addr) (K1:Unit→PT) (x2:Unit) (A3:Unit→PT):PT :=
 ld .B (Addr.add p0 2) fun (b4:Bool)=>cnd b4 (callP Tryd.prog 67 #[(.pointer (some p0)),(.int .i64 (2:Int))] [.c (.I .i64)] fun (r5:Int)=>joinP (fun R6=>loopP (0:Int) (q69_L0 p0 r5 R6)) (q69_J1 p0 K1 A3 r5)) (K1 ())
def q69 (p0:Addr) (K1:Unit→PT):PT :=
 loopP () (q69_L2 p0 K1)
def h69:Hint:=⟨(.n (.n .e 2 ([],[0]) .e) 37 ([],[2,0]) (.n .e 298 ([(3,.c (.I .i64))],[0,2]) .e)),.e⟩
theorem q69_eq (p0:Addr) (K1:Unit→PT):fnE Cx h69 [] Tryd.f69 [.pt p0] K1=q69 p0 K1:=by kernel_rfl
theorem q69_fnok:fnOk Tryd.f69 1=true:=by kernel_rfl
theorem q69_ok (p0:Addr) (K1:Unit→PT) {w:World} (h:q69 p0 K1 w):Calls Tryd.prog 69 #[(.pointer (some p0))] w fun e w'=>∃r,e = .returned (resMk [] r)∧K1 r w' :=
 of_eq Tryd.func69 q69_fnok (by kernel_rfl) (by kernel_rfl) (q69_eq p0 K1) h
def q70 (s0:Sl) (o1:Option Addr) (K2:(Sl×Bool×Value)→PT):PT :=
 callP Tryd.prog 61 #[(.pointer o1),(.slice s0.a s0.l s0.c)] [.c .P,.c .V] fun (r3:Option Addr×Value)=>req (isIf r3.2=true)<|cnd (!(isNil r3.2)) (K2 (⟨none,0,0⟩,false,r3.2)) (callP Tryd.prog 88 #[(.slice s0.a s0.l s0.c),(.pointer r3.1),(.func (.func 89) #[(.pointer r3.1)] #[])] [.c .S,.c .B,.c .V] fun (r4:Sl×Bool×Value)=>K2 (r4.1,r4.2.1,r4.2.2))
def h70:Hint:=⟨.e,.e⟩
theorem q70_eq (s0:Sl) (o1:Option Addr) (K2:(Sl×Bool×Value)→PT):fnE Cx h70 [.c .S,.c .B,.c .V] Tryd.f70 [.v (.slice s0.a s0.l s0.c),.v (.pointer o1)] K2=q70 s0 o1 K2:=by kernel_rfl
theorem q70_fnok:fnOk Tryd.f70 2=true:=by kernel_rfl
theorem q70_ok (s0:Sl) (o1:Option Addr) (K2:(Sl×Bool×Value)→PT) {w:World} (h:q70 s0 o1 K2 w):Calls Tryd.prog 70 #[(.slice s0.a s0.l s0.c),(.pointer o1)] w fun e w'=>∃r,e = .returned (resMk [.c .S,.c .B,.c .V] r)∧K2 r w' :=
 of_eq Tryd.func70 q70_fnok (by kernel_rfl) (by kernel_rfl) (q70_eq s0 o1 K2) h
def q71 (s0:Sl) (o1:Option Addr) (K2:(Sl×Bool×Value)→PT):PT :=
 callP Tryd.prog 61 #[(.pointer o1),(.slice s0.a s0.l s0.c)] [.c .P,.c .V] fun (r3:Option Addr×Value)=>req (isIf r3.2=true)<|cnd (!(isNil r3.2)) (K2 (⟨none,0,0⟩,false,r3.2)) (callP Tryd.prog 88 #[(.slice s0.a s0.l s0.c),(.pointer r3.1),(.func (.func 90) #[(.pointer r3.1)] #[])] [.c .S,.c .B,.c .V] fun (r4:Sl×Bool×Value)=>K2 (r4.1,r4.2.1,r4.2.2))
def h71:Hint:=⟨.e,.e⟩
theorem q71_eq (s0:Sl) (o1:Option Addr) (K2:(Sl×Bool×Value)→PT):fnE Cx h71 [.c .S,.c .B,.c .V] Tryd.f71 [.v (.slice s0.a s0.l s0.c),.v (.pointer o1)] K2=q71 s0 o1 K2:=by kernel_rfl
theorem q71_fnok:fnOk Tryd.f71 2=true:=by kernel_rfl
theorem q71_ok (s0:Sl) (o1:Option Addr) (K2:(Sl×Bool×Value)→PT) {w:World} (h:q71 s0 o1 K2 w):Calls Tryd.prog 71 #[(.slice s0.a s0.l s0.c),(.pointer o1)] w fun e w'=>∃r,e = .returned (resMk [.c .S,.c .B,.c .V] r)∧K2 r w' :=
 of_eq Tryd.func71 q71_fnok (by kernel_rfl) (by kernel_rfl) (q71_eq s0 o1 K2) h
def q72 (s0:Sl) (K1:(Option Addr×Bool)→PT):PT :=
 cnd (decide ((s0.l:Int)=(0:Int))) (K1 ((none:Option Addr),false)) (ixS 1 s0 (IntKind.wrap .i64 ((s0.l:Int)-(1:Int))) fun (p2:Addr)=>ld (.I .u8) p2 fun (n3:Int)=>cnd (decide (n3=(0:Int))) (K1 ((none:Option Addr),false)) (ixS 1 s0 (IntKind.wrap .i64 ((s0.l:Int)-(1:Int))) fun (p4:Addr)=>ld (.I .u8) p4 fun (n5:Int)=>callP Tryd.prog 44 #[(.int .i64 (IntKind.wrap .i64 n5))] [.c (.I .i64)] fun (r6:Int)=>nw [(.slice s0.a s0.l s0.c),(.int .i64 (IntKind.wrap .i64 ((IntKind.wrap .i64 ((8:Int)*(IntKind.wrap .i64 ((s0.l:Int)-(1:Int)))))+r6)))] 115 fun (p7:Addr)=>K1 ((some p7),true)))
def h72:Hint:=⟨.e,.e⟩
theorem q72_eq (s0:Sl) (K1:(Option Addr×Bool)→PT):fnE Cx h72 [.c .P,.c .B] Tryd.f72 [.v (.slice s0.a s0.l s0.c)] K1=q72 s0 K1:=by kernel_rfl
theorem q72_fnok:fnOk Tryd.f72 1=true:=by kernel_rfl
theorem q72_ok (s0:Sl) (K1:(Option Addr×Bool)→PT) {w:World} (h:q72 s0 K1 w):Calls Tryd.prog 72 #[(.slice s0.a s0.l s0.c)] w fun e w'=>∃r,e = .returned (resMk [.c .P,.c .B] r)∧K1 r w' :=
 of_eq Tryd.func72 q72_fnok (by kernel_rfl) (by kernel_rfl) (q72_eq s0 K1) h
def q75_L0 (s3:Sl) (R4:Unit→PT) (x5:Int) (A6:Int→PT):PT :=
 cnd (decide (x5<(s3.l:Int))) (ixS 1 s3 x5 fun (p7:Addr)=>st p7 (.int .i64 (-1:Int))<|A6 (IntKind.wrap .i64 (x5+(1:Int)))) (R4 ())
def q75_J1 (x10:(Int×Int)) (A11:(Int×Int)→PT) (x16:Int):PT :=
 A11 (x16,(IntKind.wrap .i64 (x10.2+(1:Int))))
def q75_L2 (s0:Sl) (s3:Sl) (R9:Int→PT) (x10:Int×Int) (A11:(Int×Int)→PT):PT :=
 cnd (decide (x10.2<(s0.l:Int))) (joinP (fun R12=>ixS 1 s0 x10.2 fun (p13:Addr)=>ld (.I .i64) p13 fun (n14:Int)=>cnd (decide (n14=(-1:Int))) (cnd (decide ((0:Int)≤x10.1)) (ixS 1 s3 x10.1 fun (p15:Addr)=>st p15 (.int .i64 x10.2)<|R12 (IntKind.wrap .i64 (x10.1-(1:Int)))) (R12 x10.1)) (R12 x10.1)) (q75_J1 x10 A11)) (R9 x10.1)
def q75_L3 (n1:Int) (x17:(Int)) (R26:Int→PT) (x28:Int) (A29:Int→PT):PT :=
 cnd (decide (x17<x28)) (cnd (decide (x28<(shlI .i64 (1:Int) n1))) (cnd (decide ((0:Int)≤x17)) (req ((shlI .i64 (1:Int) n1)≠0)<|A29 (Int.tmod (IntKind.wrap .i64 (x28+(IntKind.wrap .i64 ((IntKind.wrap .i64 ((quoI .i64 (shlI .i64 (1:Int) n1) (2:Int))+(quoI .i64 (shlI .i64 (1:Int) n1) (8:Int))))+(3:Int))))) (shlI .i64 (1:Int) n1))) (R26 x28)) (R26 x28)) (R26 x28)
def q75_J4 (x24:(Int×Int)) (A25:(Int×Int)→PT) (x30:Int):PT :=
 A25 (x30,(IntKind.wrap .i64 (x24.2+(1:Int))))
def q75_X5 (n1:Int) (K2:Sl→PT) (s3:Sl) (x17:(Int)) (x19:(Int×Int)) (x24:(Int×Int)) (R26:Int→PT):PT :=
 cnd (decide (x17<x24.1)) (K2 ⟨none,0,0⟩) (ixS 1 s3 x24.1 fun (p27:Addr)=>st p27 (.int .i64 x19.2)<|req ((shlI .i64 (1:Int) n1)≠0)<|loopP (Int.tmod (IntKind.wrap .i64 (x24.1+(IntKind.wrap .i64 ((IntKind.wrap .i64 ((quoI .i64 (shlI .i64 (1:Int) n1) (2:Int))+(quoI .i64 (shlI .i64 (1:Int) n1) (8:Int))))+(3:Int))))) (shlI .i64 (1:Int) n1)) (q75_L3 n1 x17 R26))
def q75_L6 (n1:Int) (K2:Sl→PT) (s3:Sl) (x17:(Int)) (x19:(Int×Int)) (R21:Int→PT) (n23:Int) (x24:Int×Int) (A25:(Int×Int)→PT):PT :=
 cnd (decide (x24.2<(maxI n23 (0:Int)))) (joinP (q75_X5 n1 K2 s3 x17 x19 x24) (q75_J4 x24 A25)) (R21 x24.1)
def q75_J7 (x19:(Int×Int)) (A20:(Int×Int)→PT) (x31:Int):PT :=
 A20 (x31,(IntKind.wrap .i64 (x19.2+(1:Int))))
def q75_L8 (s0:Sl) (n1:Int) (K2:Sl→PT) (s3:Sl) (x17:(Int)) (R18:Unit→PT) (x19:Int×Int) (A20:(Int×Int)→PT):PT :=
 cnd (decide (x19.2<(s0.l:Int))) (joinP (fun R21=>ixS 1 s0 x19.2 fun (p22:Addr)=>ld (.I .i64) p22 fun (n23:Int)=>loopP (x19.1,(0:Int)) (q75_L6 n1 K2 s3 x17 x19 R21 n23)) (q75_J7 x19 A20)) (R18 ())
def q75_J9 (K2:Sl→PT) (s3:Sl) (x32:Unit):PT :=
 K2 s3
def q75_J10 (s0:Sl) (n1:Int) (K2:Sl→PT) (s3:Sl) (x17:Int):PT :=
 req ((2:Int)≠0)<|req ((8:Int)≠0)<|joinP (fun R18=>loopP ((0:Int),(0:Int)) (q75_L8 s0 n1 K2 s3 x17 R18)) (q75_J9 K2 s3)
def q75_J11 (s0:Sl) (n1:Int) (K2:Sl→PT) (s3:Sl) (x8:Unit):PT :=
 joinP (fun R9=>loopP ((IntKind.wrap .i64 ((shlI .i64 (1:Int) n1)-(1:Int))),(0:Int)) (q75_L2 s0 s3 R9)) (q75_J10 s0 n1 K2 s3)
def q75 (s0:Sl) (n1:Int) (K2:Sl→PT):PT :=
 req (0≤n1)<|mks z3 3 8 (shlI .i64 (1:Int) n1) (shlI .i64 (1:Int) n1) fun (s3:Sl)=>joinP (fun R4=>loopP (0:Int) (q75_L0 s3 R4)) (q75_J11 s0 n1 K2 s3)
def h75:Hint:=⟨(.n (.n (.n (.n .e 15 ([],[6,0,5]) .e) 63 ([(8,.c (.I .i64))],[0,5,6]) .e) 122 ([(21,.c (.I .i64))],[6,0,5,20]) (.n (.n .e 506 ([(8,.c (.I .i64)),(32,.c (.I .i64))],[6,30,0,5,31]) .e) 511 ([],[6]) .e)) 4051 ([(8,.c (.I .i64))],[32,6,30,0,5,31]) (.n (.n (.n .e 4090 ([(12,.c (.I .i64)),(58,.c (.I .i64))],[8,11,5,6,56,57]) .e) 32723 ([(12,.c (.I .i64))],[58,8,11,5,6,56,57]) .e) 1047142 ([(12,.c (.I .i64)),(65,.c (.I .i64))],[6,13,5,11,8,58,56,57,64]) (.n (.n .e 8377139 ([(12,.c (.I .i64))],[65,6,13,5,11,8,58,56,57,64]) .e) 536136910 ([(12,.c (.I .i64))],[5,11,65,6,13,8,58,56,57,64]) .e))),.e⟩
theorem q75_eq (s0:Sl) (n1:Int) (K2:Sl→PT):fnE Cx h75 [.c .S] Tryd.f75 [.v (.slice s0.a s0.l s0.c),.v (.int .i64 n1)] K2=q75 s0 n1 K2:=by kernel_rfl
theorem q75_fnok:fnOk Tryd.f75 2=true:=by kernel_rfl
theorem q75_ok (s0:Sl) (n1:Int) (K2:Sl→PT) {w:World} (h:q75 s0 n1 K2 w):Calls Tryd.prog 75 #[(.slice s0.a s0.l s0.c),(.int .i64 n1)] w fun e w'=>∃r,e = .returned (resMk [.c .S] r)∧K2 r w' :=
 of_eq Tryd.func75 q75_fnok (by kernel_rfl) (by kernel_rfl) (q75_eq s0 n1 K2) h
def q76 (s0:Sl) (n1:Int) (K2:(Int×Bool)→PT):PT :=
 cnd (decide (n1<(0:Int))) (K2 ((0:Int),false)) (req ((8:Int)≠0)<|cnd (decide ((s0.l:Int)≤(quoI .i64 n1 (8:Int)))) (K2 ((0:Int),false)) (req ((8:Int)≠0)<|ixS 1 s0 (quoI .i64 n1 (8:Int)) fun (p3:Addr)=>ld (.I .u8) p3 fun (n4:Int)=>req ((8:Int)≠0)<|req (0≤(Int.tmod n1 (8:Int)))<|K2 ((andI .i64 (IntKind.wrap .i64 (shrI .u8 n4 (Int.tmod n1 (8:Int)))) (1:Int)),true)))
def h76:Hint:=⟨.e,.e⟩
theorem q76_eq (s0:Sl) (n1:Int) (K2:(Int×Bool)→PT):fnE Cx h76 [.c (.I .i64),.c .B] Tryd.f76 [.v (.slice s0.a s0.l s0.c),.v (.int .i64 n1)] K2=q76 s0 n1 K2:=by kernel_rfl
theorem q76_fnok:fnOk Tryd.f76 2=true:=by kernel_rfl
theorem q76_ok (s0:Sl) (n1:Int) (K2:(Int×Bool)→PT) {w:World} (h:q76 s0 n1 K2 w):Calls Tryd.prog 76 #[(.slice s0.a s0.l s0.c),(.int .i64 n1)] w fun e w'=>∃r,e = .returned (resMk [.c (.I .i64),.c .B] r)∧K2 r w' :=
 of_eq Tryd.func76 q76_fnok (by kernel_rfl) (by kernel_rfl) (q76_eq s0 n1 K2) h
def q77_L0 (x5:(Addr)) (R21:Unit→PT) (x22:Int) (A23:Int→PT):PT :=
 cnd (decide (x22<(256:Int))) (ixA 1 256 x5 x22 fun (p24:Addr)=>st p24 (.int .u32 (0:Int))<|A23 (IntKind.wrap .i64 (x22+(1:Int)))) (R21 ())
def q77_J1 (x5:(Addr)) (R18:Unit→PT) (x25:Unit):PT :=
 st (Addr.add x5 531) (.bool false)<|R18 ()
def q77_J2 (K2:(Option Addr×Value)→PT) (x5:(Addr)) (x30:Unit):PT :=
 K2 ((some x5),.nilIface)
def q77_J3 (s1:Sl) (K2:(Option Addr×Value)→PT) (x5:(Addr)) (x26:Unit):PT :=
 callP Tryd.prog 92 #[(.pointer (some (Addr.add x5 512))),(.slice s1.a s1.l s1.c)] [] fun (r27:Unit)=>joinP (fun R28=>ld (.I .i64) (Addr.add x5 527) fun (n29:Int)=>cnd (decide (n29=(0:Int))) (st (Addr.add x5 527) (.int .i64 (2147483647:Int))<|R28 ()) (R28 ())) (q77_J2 K2 x5)
def q77_J4 (s1:Sl) (K2:(Option Addr×Value)→PT) (x5:(Addr)) (x17:Unit):PT :=
 joinP (fun R18=>ld .B (Addr.add x5 531) fun (b19:Bool)=>cnd b19 (ld (.I .i64) (Addr.add x5 525) fun (n20:Int)=>cnd (decide (n20=(0:Int))) (joinP (fun R21=>loopP (0:Int) (q77_L0 x5 R21)) (q77_J1 x5 R18)) (R18 ())) (R18 ())) (q77_J3 s1 K2 x5)
def q77_J5 (s1:Sl) (K2:(Option Addr×Value)→PT) (x5:(Addr)) (x11:Unit):PT :=
 ld (.I .u8) (Addr.add x5 533) fun (n12:Int)=>cnd (decide ((12:Int)<n12)) (callP Tryd.prog 62 #[(.string ⟨#[116,97,98,108,101,76,111,103,32,62,32,109,97,120,84,97,98,108,101,76,111,103]⟩)] [.c .V] fun (r13:Value)=>K2 ((none:Option Addr),r13)) (joinP (fun R14=>ld .S (Addr.add x5 526) fun (s15:Sl)=>cnd (decide ((s15.c:Int)=(0:Int))) (mks z5 5 1 (0:Int) (s1.l:Int) fun (s16:Sl)=>st (Addr.add x5 526) (.slice s16.a s16.l s16.c)<|R14 ()) (R14 ())) (q77_J4 s1 K2 x5))
def q77_J6 (s1:Sl) (K2:(Option Addr×Value)→PT) (x5:(Addr)) (x8:Unit):PT :=
 joinP (fun R9=>ld (.I .u8) (Addr.add x5 533) fun (n10:Int)=>cnd (decide (n10=(0:Int))) (st (Addr.add x5 533) (.int .u8 (11:Int))<|R9 ()) (R9 ())) (q77_J5 s1 K2 x5)
def q77_J7 (s1:Sl) (K2:(Option Addr×Value)→PT) (x5:Addr):PT :=
 joinP (fun R6=>ld (.I .u8) (Addr.add x5 532) fun (n7:Int)=>cnd (decide (n7=(0:Int))) (st (Addr.add x5 532) (.int .u8 (255:Int))<|R6 ()) (R6 ())) (q77_J6 s1 K2 x5)
def q77 (p0:Addr) (s1:Sl) (K2:(Option Addr×Value)→PT):PT :=
 joinP (fun R3=>cnd (Option.isNone (some p0)) (nwA ⟨z134⟩ 134 fun (p4:Addr)=>R3 p4) (R3 p0)) (q77_J7 s1 K2)
def h77:Hint:=⟨(.n (.n (.n (.n .e 3 ([(0,.q)],[1]) .e) 7 ([],[1,0]) .e) 15 ([],[1,0]) (.n .e 63 ([],[0,1]) .e)) 127 ([],[1,0]) (.n (.n .e 511 ([],[0]) .e) 1018 ([],[1,0]) (.n .e 8146 ([(56,.c (.I .i64))],[0,1]) .e))),.e⟩
theorem q77_eq (p0:Addr) (s1:Sl) (K2:(Option Addr×Value)→PT):fnE Cx h77 [.c .P,.c .V] Tryd.f77 [.pt p0,.v (.slice s1.a s1.l s1.c)] K2=q77 p0 s1 K2:=by kernel_rfl
theorem q77_fnok:fnOk Tryd.f77 2=true:=by kernel_rfl
theorem q77_ok (p0:Addr) (s1:Sl) (K2:(Option Addr×Value)→PT) {w:World} (h:q77 p0 s1 K2 w):Calls Tryd.prog 77 #[(.pointer (some p0)),(.slice s1.a s1.l s1.c)] w fun e w'=>∃r,e = .returned (resMk [.c .P,.c .V] r)∧K2 r w' :=
 of_eq Tryd.func77 q77_fnok (by kernel_rfl) (by kernel_rfl) (q77_eq p0 s1 K2) h
def q81_J0 (K1:Int→PT) (x5:Int×Int):PT :=
 ixStr ⟨#[0,1,2,2,3,3,3,3,4,4,4,4,4,4,4,4,5,5,5,5,5,5,5,5,5,5,5,5,5,5,5,5,6,6,6,6,6,6,6,6,6,6,6,6,6,6,6,6,6,6,6,6,6,6,6,6,6,6,6,6,6,6,6,6,7,7,7,7,7,7,7,7,7,7,7,7,7,7,7,7,7,7,7,7,7,7,7,7,7,7,7,7,7,7,7,7,7,7,7,7,7,7,7,7,7,7,7,7,7,7,7,7,7,7,7,7,7,7,7,7,7,7,7,7,7,7,7,7,8,8,8,8,8,8,8,8,8,8,8,8,8,8,8,8,8,8,8,8,8,8,8,8,8,8,8,8,8,8,8,8,8,8,8,8,8,8,8,8,8,8,8,8,8,8,8,8,8,8,8,8,8,8,8,8,8,8,8,8,8,8,8,8,8,8,8,8,8,8,8,8,8,8,8,8,8,8,8,8,8,8,8,8,8,8,8,8,8,8,8,8,8,8,8,8,8,8,8,8,8,8,8,8,8,8,8,8,8,8,8,8,8,8,8,8,8,8,8,8,8,8,8,8,8,8,8,8]⟩ (IntKind.wrap .u8 x5.1) fun (n6:Int)=>K1 (IntKind.wrap .i64 (x5.2+(IntKind.wrap .i64 n6)))
def q81_J1 (K1:Int→PT) (x3:Int×Int):PT :=
 joinP (fun R4=>cnd (decide ((256:Int)≤x3.1)) (req (0≤(8:Int))<|R4 ((shrI .u32 x3.1 (8:Int)),(IntKind.wrap .i64 (x3.2+(8:Int))))) (R4 (x3.1,x3.2))) (q81_J0 K1)
def q81 (n0:Int) (K1:Int→PT):PT :=
 joinP (fun R2=>cnd (decide ((65536:Int)≤n0)) (req (0≤(16:Int))<|R2 ((shrI .u32 n0 (16:Int)),(16:Int))) (R2 (n0,(0:Int)))) (q81_J1 K1)
def h81:Hint:=⟨(.n (.n .e 3 ([(0,.c (.I .u32)),(2,.c (.I .i64))],[]) .e) 7 ([(0,.c (.I .u32)),(2,.c (.I .i64))],[]) .e),.e⟩
theorem q81_eq (n0:Int) (K1:Int→PT):fnE Cx h81 [.c (.I .i64)] Tryd.f81 [.v (.int .u32 n0)] K1=q81 n0 K1:=by kernel_rfl
theorem q81_fnok:fnOk Tryd.f81 1=true:=by kernel_rfl
theorem q81_ok (n0:Int) (K1:Int→PT) {w:World} (h:q81 n0 K1 w):Calls Tryd.prog 81 #[(.int .u32 n0)] w fun e w'=>∃r,e = .returned (resMk [.c (.I .i64)] r)∧K1 r w' :=
 of_eq Tryd.func81 q81_fnok (by kernel_rfl) (by kernel_rfl) (q81_eq n0 K1) h
def q82 (p0:Addr) (K1:Sl→PT):PT :=
 slcA 1 256 p0 none none none fun (s2:Sl)=>K1 s2
def h82:Hint:=⟨.e,.e⟩
theorem q82_eq (p0:Addr) (K1:Sl→PT):fnE Cx h82 [.c .S] Tryd.f82 [.pt p0] K1=q82 p0 K1:=by kernel_rfl
theorem q82_fnok:fnOk Tryd.f82 1=true:=by kernel_rfl
theorem q82_ok (p0:Addr) (K1:Sl→PT) {w:World} (h:q82 p0 K1 w):Calls Tryd.prog 82 #[(.pointer (some p0))] w fun e w'=>∃r,e = .returned (resMk [.c .S] r)∧K1 r w' :=
 of_eq Tryd.func82 q82_fnok (by kernel_rfl) (by kernel_rfl) (q82_eq p0 K1) h
def q83 (p0:Addr) (n1:Int) (n2:Int) (K3:Unit→PT):PT :=
 st (Addr.add p0 525) (.int .i64 n2)<|st (Addr.add p0 528) (.int .u16 (IntKind.wrap .u16 ((IntKind.wrap .u16 n1)+(1:Int))))<|st (Addr.add p0 531) (.bool (!decide (n2=(0:Int))))<|K3 ()
def h83:Hint:=⟨.e,.e⟩
theorem q83_eq (p0:Addr) (n1:Int) (n2:Int) (K3:Unit→PT):fnE Cx h83 [] Tryd.f83 [.pt p0,.v (.int .u8 n1),.v (.int .i64 n2)] K3=q83 p0 n1 n2 K3:=by kernel_rfl
theorem q83_fnok:fnOk Tryd.f83 3=true:=by kernel_rfl
theorem q83_ok (p0:Addr) (n1:Int) (n2:Int) (K3:Unit→PT) {w:World} (h:q83 p0 n1 n2 K3 w):Calls Tryd.prog 83 #[(.pointer (some p0)),(.int .u8 n1),(.int .i64 n2)] w fun e w'=>∃r,e = .returned (resMk [] r)∧K3 r w' :=
 of_eq Tryd.func83 q83_fnok (by kernel_rfl) (by kernel_rfl) (q83_eq p0 n1 n2 K3) h
def q84_J0 (s0:Sl) (K2:(Sl×Value)→PT) (r5:Option Addr×Value) (x10:Int):PT :=
 nz r5.1 fun (p11:Addr)=>st (Addr.add p11 531) (.bool true)<|nz r5.1 fun (p12:Addr)=>st (Addr.add p12 525) (.int .i64 (0:Int))<|cnd (decide (x10=(s0.l:Int))) (drw<|ld .V ⟨4,0,none⟩ fun (v13:Value)=>K2 (⟨none,0,0⟩,v13)) (cnd (decide (x10=(1:Int))) (drw<|ld .V ⟨3,0,none⟩ fun (v14:Value)=>K2 (⟨none,0,0⟩,v14)) (req (0≤(7:Int))<|cnd (decide (x10<(shrI .i64 (s0.l:Int) (7:Int)))) (drw<|ld .V ⟨3,0,none⟩ fun (v15:Value)=>K2 (⟨none,0,0⟩,v15)) (callP Tryd.prog 110 #[(.pointer r5.1)] [] fun (r16:Unit)=>callP Tryd.prog 111 #[(.pointer r5.1)] [.c .V] fun (r17:Value)=>req (isIf r17=true)<|cnd (!(isNil r17)) (K2 (⟨none,0,0⟩,r17)) (callP Tryd.prog 112 #[(.pointer r5.1)] [.c .V] fun (r18:Value)=>req (isIf r18=true)<|cnd (!(isNil r18)) (K2 (⟨none,0,0⟩,r18)) (callP Tryd.prog 113 #[(.pointer r5.1)] [.c .V] fun (r19:Value)=>req (isIf r19=true)<|cnd (!(isNil r19)) (K2 (⟨none,0,0⟩,r19)) (callP Tryd.prog 114 #[(.pointer r5.1),(.slice s0.a s0.l s0.c)] [.c .V] fun (r20:Value)=>req (isIf r20=true)<|cnd (!(isNil r20)) (K2 (⟨none,0,0⟩,r20)) (nz r5.1 fun (p21:Addr)=>ld .S (Addr.add (Addr.add p21 518) 2) fun (s22:Sl)=>nz r5.1 fun (p23:Addr)=>st (Addr.add p23 526) (.slice s22.a s22.l s22.c)<|nz r5.1 fun (p24:Addr)=>ld .S (Addr.add p24 526) fun (s25:Sl)=>cnd (decide ((s0.l:Int)≤(s25.l:Int))) (drw<|ld .V ⟨3,0,none⟩ fun (v26:Value)=>K2 (⟨none,0,0⟩,v26)) (nz r5.1 fun (p27:Addr)=>ld .S (Addr.add p27 526) fun (s28:Sl)=>K2 (s28,.nilIface)))))))))
def q84 (s0:Sl) (o1:Option Addr) (K2:(Sl×Value)→PT):PT :=
 cnd (decide ((s0.l:Int)≤(1:Int))) (drw<|ld .V ⟨3,0,none⟩ fun (v3:Value)=>K2 (⟨none,0,0⟩,v3)) (cnd (decide ((2147483647:Int)<(s0.l:Int))) (callP Tryd.prog 62 #[(.string ⟨#[105,110,112,117,116,32,116,111,111,32,98,105,103,44,32,109,117,115,116,32,98,101,32,60,32,50,71,66]⟩)] [.c .V] fun (r4:Value)=>K2 (⟨none,0,0⟩,r4)) (callP Tryd.prog 77 #[(.pointer o1),(.slice s0.a s0.l s0.c)] [.c .P,.c .V] fun (r5:Option Addr×Value)=>req (isIf r5.2=true)<|cnd (!(isNil r5.2)) (K2 (⟨none,0,0⟩,r5.2)) (nz r5.1 fun (p6:Addr)=>ld (.I .i64) (Addr.add p6 525) fun (n7:Int)=>joinP (fun R8=>cnd (decide (n7=(0:Int))) (callP Tryd.prog 109 #[(.pointer r5.1),(.slice s0.a s0.l s0.c)] [.c (.I .i64)] fun (r9:Int)=>R8 r9) (R8 n7)) (q84_J0 s0 K2 r5))))
def h84:Hint:=⟨(.n .e 127 ([(7,.c (.I .i64))],[0,1]) .e),.e⟩
theorem q84_eq (s0:Sl) (o1:Option Addr) (K2:(Sl×Value)→PT):fnE Cx h84 [.c .S,.c .V] Tryd.f84 [.v (.slice s0.a s0.l s0.c),.v (.pointer o1)] K2=q84 s0 o1 K2:=by kernel_rfl
theorem q84_fnok:fnOk Tryd.f84 2=true:=by kernel_rfl
theorem q84_ok (s0:Sl) (o1:Option Addr) (K2:(Sl×Value)→PT) {w:World} (h:q84 s0 o1 K2 w):Calls Tryd.prog 84 #[(.slice s0.a s0.l s0.c),(.pointer o1)] w fun e w'=>∃r,e = .returned (resMk [.c .S,.c .V] r)∧K2 r w' :=
 of_eq Tryd.func84 q84_fnok (by kernel_rfl) (by kernel_rfl) (q84_eq s0 o1 K2) h
def q87_J0 (x5:(Int×Bool×Int)) (A6:(Int×Bool×Int)→PT) (x9:Int×Bool):PT :=
 A6 (x9.1,x9.2,(IntKind.wrap .i64 (x5.2.2+(1:Int))))
def q87_L1 (s0:Sl) (n1:Int) (n2:Int) (R4:Int×Bool→PT) (x5:Int×Bool×Int) (A6:(Int×Bool×Int)→PT):PT :=
 cnd (decide (x5.2.2<n2)) (joinP (fun R7=>callP Tryd.prog 76 #[(.slice s0.a s0.l s0.c),(.int .i64 (IntKind.wrap .i64 (n1+x5.2.2)))] [.c (.I .i64),.c .B] fun (r8:Int×Bool)=>req (0≤x5.2.2)<|cnd x5.2.1 (R7 ((IntKind.wrap .i64 (x5.1+(shlI .i64 r8.1 x5.2.2))),r8.2)) (R7 ((IntKind.wrap .i64 (x5.1+(shlI .i64 r8.1 x5.2.2))),false))) (q87_J0 x5 A6)) (R4 (x5.1,x5.2.1))
def q87_J2 (K3:(Int×Bool)→PT) (x10:Int×Bool):PT :=
 K3 (x10.1,x10.2)
def q87 (s0:Sl) (n1:Int) (n2:Int) (K3:(Int×Bool)→PT):PT :=
 joinP (fun R4=>loopP ((0:Int),true,(0:Int)) (q87_L1 s0 n1 n2 R4)) (q87_J2 K3)
def h87:Hint:=⟨(.n (.n .e 7 ([(8,.c (.I .i64)),(9,.c .B)],[]) .e) 58 ([(8,.c (.I .i64)),(9,.c .B),(10,.c (.I .i64))],[1,0,2]) (.n .e 233 ([(8,.c (.I .i64)),(9,.c .B)],[10,1,0,2]) .e)),.e⟩
theorem q87_eq (s0:Sl) (n1:Int) (n2:Int) (K3:(Int×Bool)→PT):fnE Cx h87 [.c (.I .i64),.c .B] Tryd.f87 [.v (.slice s0.a s0.l s0.c),.v (.int .i64 n1),.v (.int .i64 n2)] K3=q87 s0 n1 n2 K3:=by kernel_rfl
theorem q87_fnok:fnOk Tryd.f87 3=true:=by kernel_rfl
theorem q87_ok (s0:Sl) (n1:Int) (n2:Int) (K3:(Int×Bool)→PT) {w:World} (h:q87 s0 n1 n2 K3 w):Calls Tryd.prog 87 #[(.slice s0.a s0.l s0.c),(.int .i64 n1),(.int .i64 n2)] w fun e w'=>∃r,e = .returned (resMk [.c (.I .i64),.c .B] r)∧K3 r w' :=
 of_eq Tryd.func87 q87_fnok (by kernel_rfl) (by kernel_rfl) (q87_eq s0 n1 n2 K3) h
def q88_J0 (s0:Sl) (o1:Option Addr) (v2:Value) (K3:(Sl×Bool×Value)→PT) (x25:(Int)) (x178:Unit):PT :=
 nz o1 fun (p179:Addr)=>ld .S (Addr.add p179 271) fun (s180:Sl)=>callP Tryd.prog 65 #[(.slice s180.a s180.l s180.c),(.pointer o1)] [.c .V] fun (r181:Value)=>req (isIf r181=true)<|cnd (!(isNil r181)) (nz o1 fun (p182:Addr)=>st (Addr.add p182 257) (.slice none 0 0)<|K3 (⟨none,0,0⟩,false,r181)) (nz o1 fun (p183:Addr)=>ld .S (Addr.add p183 256) fun (s184:Sl)=>nz o1 fun (p185:Addr)=>st (Addr.add p185 257) (.slice s184.a s184.l s184.c)<|callV Tryd.prog v2 #[(.slice s0.a s0.l s0.c)] [.c .S,.c .V] fun (r186:Sl×Value)=>nz o1 fun (p187:Addr)=>st (Addr.add p187 256) (.slice r186.1.a r186.1.l r186.1.c)<|req (isIf r186.2=true)<|cnd (!(isNil r186.2)) (nz o1 fun (p188:Addr)=>st (Addr.add p188 257) (.slice none 0 0)<|K3 (⟨none,0,0⟩,false,r186.2)) (nz o1 fun (p189:Addr)=>ld .S (Addr.add p189 256) fun (s190:Sl)=>cnd (decide (x25≤(s190.l:Int))) (nz o1 fun (p191:Addr)=>st (Addr.add p191 257) (.slice none 0 0)<|drw<|ld .V ⟨0,0,none⟩ fun (v192:Value)=>K3 (⟨none,0,0⟩,false,v192)) (drw<|nz o1 fun (p193:Addr)=>ld .S (Addr.add p193 271) fun (s194:Sl)=>nz o1 fun (p195:Addr)=>ld (.I .u8) (Addr.add p195 268) fun (n196:Int)=>nz o1 fun (p197:Addr)=>ld .S (Addr.add p197 270) fun (s198:Sl)=>slc 2 s198 none (some (0:Int)) none fun (s199:Sl)=>nz o1 fun (p200:Addr)=>st (Addr.add p200 270) (.slice s194.a s194.l s194.c)<|nz o1 fun (p201:Addr)=>st (Addr.add p201 269) (.int .u8 n196)<|nz o1 fun (p202:Addr)=>st (Addr.add p202 271) (.slice s199.a s199.l s199.c)<|drw<|nz o1 fun (p203:Addr)=>ld .S (Addr.add p203 256) fun (s204:Sl)=>nz o1 fun (p205:Addr)=>ld .S (Addr.add p205 257) fun (s206:Sl)=>slc 1 s204 (some (s206.l:Int)) none none fun (s207:Sl)=>nz o1 fun (p208:Addr)=>st (Addr.add p208 258) (.slice s207.a s207.l s207.c)<|nz o1 fun (p209:Addr)=>ld .S (Addr.add p209 256) fun (s210:Sl)=>K3 (s210,false,.nilIface))))
def q88_X1 (s0:Sl) (o1:Option Addr) (v2:Value) (K3:(Sl×Bool×Value)→PT) (x19:(Int×Bool)) (x25:(Int)) (R115:Unit→PT):PT :=
 nz o1 fun (p116:Addr)=>ld (.I .u8) (Addr.add p116 263) fun (n117:Int)=>cnd (decide (n117=(0:Int))) (cnd x19.2 (nz o1 fun (p118:Addr)=>ld .S (Addr.add p118 256) fun (s119:Sl)=>drw<|nz o1 fun (p120:Addr)=>ld .S (Addr.add p120 270) fun (s121:Sl)=>nz o1 fun (p122:Addr)=>nz o1 fun (p123:Addr)=>ld (.I .u16) (Addr.add p123 265) fun (n124:Int)=>slcA 1 256 p122 none (some n124) none fun (s125:Sl)=>callP Tryd.prog 119 #[(.slice s121.a s121.l s121.c),(.slice s125.a s125.l s125.c)] [.c (.I .i64)] fun (r126:Int)=>drw<|nz o1 fun (p127:Addr)=>ld .S (Addr.add p127 271) fun (s128:Sl)=>nz o1 fun (p129:Addr)=>nz o1 fun (p130:Addr)=>ld (.I .u16) (Addr.add p130 265) fun (n131:Int)=>slcA 1 256 p129 none (some n131) none fun (s132:Sl)=>callP Tryd.prog 119 #[(.slice s128.a s128.l s128.c),(.slice s132.a s132.l s132.c)] [.c (.I .i64)] fun (r133:Int)=>cnd (decide (r126≤(IntKind.wrap .i64 ((s119.l:Int)+r133)))) (nz o1 fun (p134:Addr)=>ld .S (Addr.add p134 271) fun (s135:Sl)=>nz o1 fun (p136:Addr)=>ld (.I .u8) (Addr.add p136 268) fun (n137:Int)=>nz o1 fun (p138:Addr)=>ld .S (Addr.add p138 270) fun (s139:Sl)=>nz o1 fun (p140:Addr)=>st (Addr.add p140 271) (.slice s139.a s139.l s139.c)<|nz o1 fun (p141:Addr)=>ld (.I .u8) (Addr.add p141 269) fun (n142:Int)=>nz o1 fun (p143:Addr)=>st (Addr.add p143 268) (.int .u8 n142)<|callV Tryd.prog v2 #[(.slice s0.a s0.l s0.c)] [.c .S,.c .V] fun (r144:Sl×Value)=>nz o1 fun (p145:Addr)=>st (Addr.add p145 256) (.slice r144.1.a r144.1.l r144.1.c)<|nz o1 fun (p146:Addr)=>st (Addr.add p146 271) (.slice s135.a s135.l s135.c)<|nz o1 fun (p147:Addr)=>st (Addr.add p147 268) (.int .u8 n137)<|req (isIf r144.2=true)<|cnd (!(isNil r144.2)) (K3 (⟨none,0,0⟩,false,r144.2)) (nz o1 fun (p148:Addr)=>ld .S (Addr.add p148 256) fun (s149:Sl)=>cnd (decide (x25≤(s149.l:Int))) (drw<|ld .V ⟨0,0,none⟩ fun (v150:Value)=>K3 (⟨none,0,0⟩,false,v150)) (nz o1 fun (p151:Addr)=>ld .S (Addr.add p151 256) fun (s152:Sl)=>nz o1 fun (p153:Addr)=>st (Addr.add p153 258) (.slice s152.a s152.l s152.c)<|nz o1 fun (p154:Addr)=>ld .S (Addr.add p154 256) fun (s155:Sl)=>K3 (s155,true,.nilIface)))) (cnd (decide (x25≤(IntKind.wrap .i64 ((s119.l:Int)+(12:Int))))) (nz o1 fun (p156:Addr)=>ld .S (Addr.add p156 271) fun (s157:Sl)=>nz o1 fun (p158:Addr)=>ld (.I .u8) (Addr.add p158 268) fun (n159:Int)=>nz o1 fun (p160:Addr)=>ld .S (Addr.add p160 270) fun (s161:Sl)=>nz o1 fun (p162:Addr)=>st (Addr.add p162 271) (.slice s161.a s161.l s161.c)<|nz o1 fun (p163:Addr)=>ld (.I .u8) (Addr.add p163 269) fun (n164:Int)=>nz o1 fun (p165:Addr)=>st (Addr.add p165 268) (.int .u8 n164)<|callV Tryd.prog v2 #[(.slice s0.a s0.l s0.c)] [.c .S,.c .V] fun (r166:Sl×Value)=>nz o1 fun (p167:Addr)=>st (Addr.add p167 256) (.slice r166.1.a r166.1.l r166.1.c)<|nz o1 fun (p168:Addr)=>st (Addr.add p168 271) (.slice s157.a s157.l s157.c)<|nz o1 fun (p169:Addr)=>st (Addr.add p169 268) (.int .u8 n159)<|req (isIf r166.2=true)<|cnd (!(isNil r166.2)) (K3 (⟨none,0,0⟩,false,r166.2)) (nz o1 fun (p170:Addr)=>ld .S (Addr.add p170 256) fun (s171:Sl)=>cnd (decide (x25≤(s171.l:Int))) (drw<|ld .V ⟨0,0,none⟩ fun (v172:Value)=>K3 (⟨none,0,0⟩,false,v172)) (nz o1 fun (p173:Addr)=>ld .S (Addr.add p173 256) fun (s174:Sl)=>nz o1 fun (p175:Addr)=>st (Addr.add p175 258) (.slice s174.a s174.l s174.c)<|nz o1 fun (p176:Addr)=>ld .S (Addr.add p176 256) fun (s177:Sl)=>K3 (s177,true,.nilIface)))) (R115 ()))) (R115 ())) (R115 ())
def q88_J2 (s0:Sl) (o1:Option Addr) (v2:Value) (K3:(Sl×Bool×Value)→PT) (x19:(Int×Bool)) (x25:(Int)) (x114:Unit):PT :=
 joinP (q88_X1 s0 o1 v2 K3 x19 x25) (q88_J0 s0 o1 v2 K3 x25)
def q88_J3 (s0:Sl) (o1:Option Addr) (v2:Value) (K3:(Sl×Bool×Value)→PT) (x19:(Int×Bool)) (x25:(Int)) (x111:Unit):PT :=
 callP Tryd.prog 91 #[(.pointer o1)] [.c .V] fun (r112:Value)=>req (isIf r112=true)<|cnd (!(isNil r112)) (K3 (⟨none,0,0⟩,false,r112)) (joinP (fun R113=>R113 ()) (q88_J2 s0 o1 v2 K3 x19 x25))
def q88_X4 (s0:Sl) (o1:Option Addr) (v2:Value) (K3:(Sl×Bool×Value)→PT) (x19:(Int×Bool)) (x25:(Int)) (R36:Unit→PT):PT :=
 nz o1 fun (p37:Addr)=>ld (.I .u8) (Addr.add p37 263) fun (n38:Int)=>cnd (decide (n38=(1:Int))) (cnd x19.2 (nz o1 fun (p39:Addr)=>ld .S (Addr.add p39 271) fun (s40:Sl)=>nz o1 fun (p41:Addr)=>ld (.I .u8) (Addr.add p41 268) fun (n42:Int)=>nz o1 fun (p43:Addr)=>ld .S (Addr.add p43 270) fun (s44:Sl)=>nz o1 fun (p45:Addr)=>st (Addr.add p45 271) (.slice s44.a s44.l s44.c)<|nz o1 fun (p46:Addr)=>ld (.I .u8) (Addr.add p46 269) fun (n47:Int)=>nz o1 fun (p48:Addr)=>st (Addr.add p48 268) (.int .u8 n47)<|callV Tryd.prog v2 #[(.slice s0.a s0.l s0.c)] [.c .S,.c .V] fun (r49:Sl×Value)=>nz o1 fun (p50:Addr)=>st (Addr.add p50 256) (.slice r49.1.a r49.1.l r49.1.c)<|nz o1 fun (p51:Addr)=>st (Addr.add p51 271) (.slice s40.a s40.l s40.c)<|nz o1 fun (p52:Addr)=>st (Addr.add p52 268) (.int .u8 n42)<|req (isIf r49.2=true)<|cnd (isNil r49.2) (nz o1 fun (p53:Addr)=>ld .S (Addr.add p53 256) fun (s54:Sl)=>cnd (decide ((s54.l:Int)<x25)) (nz o1 fun (p55:Addr)=>ld .S (Addr.add p55 256) fun (s56:Sl)=>nz o1 fun (p57:Addr)=>st (Addr.add p57 258) (.slice s56.a s56.l s56.c)<|nz o1 fun (p58:Addr)=>ld .S (Addr.add p58 256) fun (s59:Sl)=>K3 (s59,true,.nilIface)) (nz o1 fun (p60:Addr)=>ld (.I .u8) (Addr.add p60 263) fun (n61:Int)=>cnd (decide (n61=(3:Int))) (drw<|ld .V ⟨0,0,none⟩ fun (v62:Value)=>K3 (⟨none,0,0⟩,false,v62)) (nz o1 fun (p63:Addr)=>ld .S (Addr.add p63 270) fun (s64:Sl)=>slc 2 s64 none (some (0:Int)) none fun (s65:Sl)=>nz o1 fun (p66:Addr)=>st (Addr.add p66 270) (.slice s65.a s65.l s65.c)<|R36 ()))) (nz o1 fun (p67:Addr)=>ld (.I .u8) (Addr.add p67 263) fun (n68:Int)=>cnd (decide (n68=(3:Int))) (drw<|ld .V ⟨0,0,none⟩ fun (v69:Value)=>K3 (⟨none,0,0⟩,false,v69)) (nz o1 fun (p70:Addr)=>ld .S (Addr.add p70 270) fun (s71:Sl)=>slc 2 s71 none (some (0:Int)) none fun (s72:Sl)=>nz o1 fun (p73:Addr)=>st (Addr.add p73 270) (.slice s72.a s72.l s72.c)<|R36 ()))) (R36 ())) (nz o1 fun (p74:Addr)=>ld (.I .u8) (Addr.add p74 263) fun (n75:Int)=>cnd (decide (n75=(3:Int))) (cnd x19.2 (nz o1 fun (p76:Addr)=>ld .S (Addr.add p76 271) fun (s77:Sl)=>nz o1 fun (p78:Addr)=>ld (.I .u8) (Addr.add p78 268) fun (n79:Int)=>nz o1 fun (p80:Addr)=>ld .S (Addr.add p80 270) fun (s81:Sl)=>nz o1 fun (p82:Addr)=>st (Addr.add p82 271) (.slice s81.a s81.l s81.c)<|nz o1 fun (p83:Addr)=>ld (.I .u8) (Addr.add p83 269) fun (n84:Int)=>nz o1 fun (p85:Addr)=>st (Addr.add p85 268) (.int .u8 n84)<|callV Tryd.prog v2 #[(.slice s0.a s0.l s0.c)] [.c .S,.c .V] fun (r86:Sl×Value)=>nz o1 fun (p87:Addr)=>st (Addr.add p87 256) (.slice r86.1.a r86.1.l r86.1.c)<|nz o1 fun (p88:Addr)=>st (Addr.add p88 271) (.slice s77.a s77.l s77.c)<|nz o1 fun (p89:Addr)=>st (Addr.add p89 268) (.int .u8 n79)<|req (isIf r86.2=true)<|cnd (isNil r86.2) (nz o1 fun (p90:Addr)=>ld .S (Addr.add p90 256) fun (s91:Sl)=>cnd (decide ((s91.l:Int)<x25)) (nz o1 fun (p92:Addr)=>ld .S (Addr.add p92 256) fun (s93:Sl)=>nz o1 fun (p94:Addr)=>st (Addr.add p94 258) (.slice s93.a s93.l s93.c)<|nz o1 fun (p95:Addr)=>ld .S (Addr.add p95 256) fun (s96:Sl)=>K3 (s96,true,.nilIface)) (nz o1 fun (p97:Addr)=>ld (.I .u8) (Addr.add p97 263) fun (n98:Int)=>cnd (decide (n98=(3:Int))) (drw<|ld .V ⟨0,0,none⟩ fun (v99:Value)=>K3 (⟨none,0,0⟩,false,v99)) (nz o1 fun (p100:Addr)=>ld .S (Addr.add p100 270) fun (s101:Sl)=>slc 2 s101 none (some (0:Int)) none fun (s102:Sl)=>nz o1 fun (p103:Addr)=>st (Addr.add p103 270) (.slice s102.a s102.l s102.c)<|R36 ()))) (nz o1 fun (p104:Addr)=>ld (.I .u8) (Addr.add p104 263) fun (n105:Int)=>cnd (decide (n105=(3:Int))) (drw<|ld .V ⟨0,0,none⟩ fun (v106:Value)=>K3 (⟨none,0,0⟩,false,v106)) (nz o1 fun (p107:Addr)=>ld .S (Addr.add p107 270) fun (s108:Sl)=>slc 2 s108 none (some (0:Int)) none fun (s109:Sl)=>nz o1 fun (p110:Addr)=>st (Addr.add p110 270) (.slice s109.a s109.l s109.c)<|R36 ()))) (R36 ())) (R36 ()))
def q88_J5 (s0:Sl) (o1:Option Addr) (v2:Value) (K3:(Sl×Bool×Value)→PT) (x25:(Int)) (x353:Unit):PT :=
 nz o1 fun (p354:Addr)=>ld .S (Addr.add p354 271) fun (s355:Sl)=>callP Tryd.prog 65 #[(.slice s355.a s355.l s355.c),(.pointer o1)] [.c .V] fun (r356:Value)=>req (isIf r356=true)<|cnd (!(isNil r356)) (nz o1 fun (p357:Addr)=>st (Addr.add p357 257) (.slice none 0 0)<|K3 (⟨none,0,0⟩,false,r356)) (nz o1 fun (p358:Addr)=>ld .S (Addr.add p358 256) fun (s359:Sl)=>nz o1 fun (p360:Addr)=>st (Addr.add p360 257) (.slice s359.a s359.l s359.c)<|callV Tryd.prog v2 #[(.slice s0.a s0.l s0.c)] [.c .S,.c .V] fun (r361:Sl×Value)=>nz o1 fun (p362:Addr)=>st (Addr.add p362 256) (.slice r361.1.a r361.1.l r361.1.c)<|req (isIf r361.2=true)<|cnd (!(isNil r361.2)) (nz o1 fun (p363:Addr)=>st (Addr.add p363 257) (.slice none 0 0)<|K3 (⟨none,0,0⟩,false,r361.2)) (nz o1 fun (p364:Addr)=>ld .S (Addr.add p364 256) fun (s365:Sl)=>cnd (decide (x25≤(s365.l:Int))) (nz o1 fun (p366:Addr)=>st (Addr.add p366 257) (.slice none 0 0)<|drw<|ld .V ⟨0,0,none⟩ fun (v367:Value)=>K3 (⟨none,0,0⟩,false,v367)) (drw<|nz o1 fun (p368:Addr)=>ld .S (Addr.add p368 271) fun (s369:Sl)=>nz o1 fun (p370:Addr)=>ld (.I .u8) (Addr.add p370 268) fun (n371:Int)=>nz o1 fun (p372:Addr)=>ld .S (Addr.add p372 270) fun (s373:Sl)=>slc 2 s373 none (some (0:Int)) none fun (s374:Sl)=>nz o1 fun (p375:Addr)=>st (Addr.add p375 270) (.slice s369.a s369.l s369.c)<|nz o1 fun (p376:Addr)=>st (Addr.add p376 269) (.int .u8 n371)<|nz o1 fun (p377:Addr)=>st (Addr.add p377 271) (.slice s374.a s374.l s374.c)<|drw<|nz o1 fun (p378:Addr)=>ld .S (Addr.add p378 256) fun (s379:Sl)=>nz o1 fun (p380:Addr)=>ld .S (Addr.add p380 257) fun (s381:Sl)=>slc 1 s379 (some (s381.l:Int)) none none fun (s382:Sl)=>nz o1 fun (p383:Addr)=>st (Addr.add p383 258) (.slice s382.a s382.l s382.c)<|nz o1 fun (p384:Addr)=>ld .S (Addr.add p384 256) fun (s385:Sl)=>K3 (s385,false,.nilIface))))
def q88_X6 (s0:Sl) (o1:Option Addr) (v2:Value) (K3:(Sl×Bool×Value)→PT) (x19:(Int×Bool)) (x25:(Int)) (R290:Unit→PT):PT :=
 nz o1 fun (p291:Addr)=>ld (.I .u8) (Addr.add p291 263) fun (n292:Int)=>cnd (decide (n292=(0:Int))) (cnd x19.2 (nz o1 fun (p293:Addr)=>ld .S (Addr.add p293 256) fun (s294:Sl)=>drw<|nz o1 fun (p295:Addr)=>ld .S (Addr.add p295 270) fun (s296:Sl)=>nz o1 fun (p297:Addr)=>nz o1 fun (p298:Addr)=>ld (.I .u16) (Addr.add p298 265) fun (n299:Int)=>slcA 1 256 p297 none (some n299) none fun (s300:Sl)=>callP Tryd.prog 119 #[(.slice s296.a s296.l s296.c),(.slice s300.a s300.l s300.c)] [.c (.I .i64)] fun (r301:Int)=>drw<|nz o1 fun (p302:Addr)=>ld .S (Addr.add p302 271) fun (s303:Sl)=>nz o1 fun (p304:Addr)=>nz o1 fun (p305:Addr)=>ld (.I .u16) (Addr.add p305 265) fun (n306:Int)=>slcA 1 256 p304 none (some n306) none fun (s307:Sl)=>callP Tryd.prog 119 #[(.slice s303.a s303.l s303.c),(.slice s307.a s307.l s307.c)] [.c (.I .i64)] fun (r308:Int)=>cnd (decide (r301≤(IntKind.wrap .i64 ((s294.l:Int)+r308)))) (nz o1 fun (p309:Addr)=>ld .S (Addr.add p309 271) fun (s310:Sl)=>nz o1 fun (p311:Addr)=>ld (.I .u8) (Addr.add p311 268) fun (n312:Int)=>nz o1 fun (p313:Addr)=>ld .S (Addr.add p313 270) fun (s314:Sl)=>nz o1 fun (p315:Addr)=>st (Addr.add p315 271) (.slice s314.a s314.l s314.c)<|nz o1 fun (p316:Addr)=>ld (.I .u8) (Addr.add p316 269) fun (n317:Int)=>nz o1 fun (p318:Addr)=>st (Addr.add p318 268) (.int .u8 n317)<|callV Tryd.prog v2 #[(.slice s0.a s0.l s0.c)] [.c .S,.c .V] fun (r319:Sl×Value)=>nz o1 fun (p320:Addr)=>st (Addr.add p320 256) (.slice r319.1.a r319.1.l r319.1.c)<|nz o1 fun (p321:Addr)=>st (Addr.add p321 271) (.slice s310.a s310.l s310.c)<|nz o1 fun (p322:Addr)=>st (Addr.add p322 268) (.int .u8 n312)<|req (isIf r319.2=true)<|cnd (!(isNil r319.2)) (K3 (⟨none,0,0⟩,false,r319.2)) (nz o1 fun (p323:Addr)=>ld .S (Addr.add p323 256) fun (s324:Sl)=>cnd (decide (x25≤(s324.l:Int))) (drw<|ld .V ⟨0,0,none⟩ fun (v325:Value)=>K3 (⟨none,0,0⟩,false,v325)) (nz o1 fun (p326:Addr)=>ld .S (Addr.add p326 256) fun (s327:Sl)=>nz o1 fun (p328:Addr)=>st (Addr.add p328 258) (.slice s327.a s327.l s327.c)<|nz o1 fun (p329:Addr)=>ld .S (Addr.add p329 256) fun (s330:Sl)=>K3 (s330,true,.nilIface)))) (cnd (decide (x25≤(IntKind.wrap .i64 ((s294.l:Int)+(12:Int))))) (nz o1 fun (p331:Addr)=>ld .S (Addr.add p331 271) fun (s332:Sl)=>nz o1 fun (p333:Addr)=>ld (.I .u8) (Addr.add p333 268) fun (n334:Int)=>nz o1 fun (p335:Addr)=>ld .S (Addr.add p335 270) fun (s336:Sl)=>nz o1 fun (p337:Addr)=>st (Addr.add p337 271) (.slice s336.a s336.l s336.c)<|nz o1 fun (p338:Addr)=>ld (.I .u8) (Addr.add p338 269) fun (n339:Int)=>nz o1 fun (p340:Addr)=>st (Addr.add p340 268) (.int .u8 n339)<|callV Tryd.prog v2 #[(.slice s0.a s0.l s0.c)] [.c .S,.c .V] fun (r341:Sl×Value)=>nz o1 fun (p342:Addr)=>st (Addr.add p342 256) (.slice r341.1.a r341.1.l r341.1.c)<|nz o1 fun (p343:Addr)=>st (Addr.add p343 271) (.slice s332.a s332.l s332.c)<|nz o1 fun (p344:Addr)=>st (Addr.add p344 268) (.int .u8 n334)<|req (isIf r341.2=true)<|cnd (!(isNil r341.2)) (K3 (⟨none,0,0⟩,false,r341.2)) (nz o1 fun (p345:Addr)=>ld .S (Addr.add p345 256) fun (s346:Sl)=>cnd (decide (x25≤(s346.l:Int))) (drw<|ld .V ⟨0,0,none⟩ fun (v347:Value)=>K3 (⟨none,0,0⟩,false,v347)) (nz o1 fun (p348:Addr)=>ld .S (Addr.add p348 256) fun (s349:Sl)=>nz o1 fun (p350:Addr)=>st (Addr.add p350 258) (.slice s349.a s349.l s349.c)<|nz o1 fun (p351:Addr)=>ld .S (Addr.add p351 256) fun (s352:Sl)=>K3 (s352,true,.nilIface)))) (R290 ()))) (R290 ())) (R290 ())
def q88_J7 (s0:Sl) (o1:Option Addr) (v2:Value) (K3:(Sl×Bool×Value)→PT) (x19:(Int×Bool)) (x25:(Int)) (x289:Unit):PT :=
 joinP (q88_X6 s0 o1 v2 K3 x19 x25) (q88_J5 s0 o1 v2 K3 x25)
def q88_J8 (s0:Sl) (o1:Option Addr) (v2:Value) (K3:(Sl×Bool×Value)→PT) (x19:(Int×Bool)) (x25:(Int)) (x286:Unit):PT :=
 callP Tryd.prog 91 #[(.pointer o1)] [.c .V] fun (r287:Value)=>req (isIf r287=true)<|cnd (!(isNil r287)) (K3 (⟨none,0,0⟩,false,r287)) (joinP (fun R288=>R288 ()) (q88_J7 s0 o1 v2 K3 x19 x25))
def q88_X9 (s0:Sl) (o1:Option Addr) (v2:Value) (K3:(Sl×Bool×Value)→PT) (x19:(Int×Bool)) (x25:(Int)) (R211:Unit→PT):PT :=
 nz o1 fun (p212:Addr)=>ld (.I .u8) (Addr.add p212 263) fun (n213:Int)=>cnd (decide (n213=(1:Int))) (cnd x19.2 (nz o1 fun (p214:Addr)=>ld .S (Addr.add p214 271) fun (s215:Sl)=>nz o1 fun (p216:Addr)=>ld (.I .u8) (Addr.add p216 268) fun (n217:Int)=>nz o1 fun (p218:Addr)=>ld .S (Addr.add p218 270) fun (s219:Sl)=>nz o1 fun (p220:Addr)=>st (Addr.add p220 271) (.slice s219.a s219.l s219.c)<|nz o1 fun (p221:Addr)=>ld (.I .u8) (Addr.add p221 269) fun (n222:Int)=>nz o1 fun (p223:Addr)=>st (Addr.add p223 268) (.int .u8 n222)<|callV Tryd.prog v2 #[(.slice s0.a s0.l s0.c)] [.c .S,.c .V] fun (r224:Sl×Value)=>nz o1 fun (p225:Addr)=>st (Addr.add p225 256) (.slice r224.1.a r224.1.l r224.1.c)<|nz o1 fun (p226:Addr)=>st (Addr.add p226 271) (.slice s215.a s215.l s215.c)<|nz o1 fun (p227:Addr)=>st (Addr.add p227 268) (.int .u8 n217)<|req (isIf r224.2=true)<|cnd (isNil r224.2) (nz o1 fun (p228:Addr)=>ld .S (Addr.add p228 256) fun (s229:Sl)=>cnd (decide ((s229.l:Int)<x25)) (nz o1 fun (p230:Addr)=>ld .S (Addr.add p230 256) fun (s231:Sl)=>nz o1 fun (p232:Addr)=>st (Addr.add p232 258) (.slice s231.a s231.l s231.c)<|nz o1 fun (p233:Addr)=>ld .S (Addr.add p233 256) fun (s234:Sl)=>K3 (s234,true,.nilIface)) (nz o1 fun (p235:Addr)=>ld (.I .u8) (Addr.add p235 263) fun (n236:Int)=>cnd (decide (n236=(3:Int))) (drw<|ld .V ⟨0,0,none⟩ fun (v237:Value)=>K3 (⟨none,0,0⟩,false,v237)) (nz o1 fun (p238:Addr)=>ld .S (Addr.add p238 270) fun (s239:Sl)=>slc 2 s239 none (some (0:Int)) none fun (s240:Sl)=>nz o1 fun (p241:Addr)=>st (Addr.add p241 270) (.slice s240.a s240.l s240.c)<|R211 ()))) (nz o1 fun (p242:Addr)=>ld (.I .u8) (Addr.add p242 263) fun (n243:Int)=>cnd (decide (n243=(3:Int))) (drw<|ld .V ⟨0,0,none⟩ fun (v244:Value)=>K3 (⟨none,0,0⟩,false,v244)) (nz o1 fun (p245:Addr)=>ld .S (Addr.add p245 270) fun (s246:Sl)=>slc 2 s246 none (some (0:Int)) none fun (s247:Sl)=>nz o1 fun (p248:Addr)=>st (Addr.add p248 270) (.slice s247.a s247.l s247.c)<|R211 ()))) (R211 ())) (nz o1 fun (p249:Addr)=>ld (.I .u8) (Addr.add p249 263) fun (n250:Int)=>cnd (decide (n250=(3:Int))) (cnd x19.2 (nz o1 fun (p251:Addr)=>ld .S (Addr.add p251 271) fun (s252:Sl)=>nz o1 fun (p253:Addr)=>ld (.I .u8) (Addr.add p253 268) fun (n254:Int)=>nz o1 fun (p255:Addr)=>ld .S (Addr.add p255 270) fun (s256:Sl)=>nz o1 fun (p257:Addr)=>st (Addr.add p257 271) (.slice s256.a s256.l s256.c)<|nz o1 fun (p258:Addr)=>ld (.I .u8) (Addr.add p258 269) fun (n259:Int)=>nz o1 fun (p260:Addr)=>st (Addr.add p260 268) (.int .u8 n259)<|callV Tryd.prog v2 #[(.slice s0.a s0.l s0.c)] [.c .S,.c .V] fun (r261:Sl×Value)=>nz o1 fun (p262:Addr)=>st (Addr.add p262 256) (.slice r261.1.a r261.1.l r261.1.c)<|nz o1 fun (p263:Addr)=>st (Addr.add p263 271) (.slice s252.a s252.l s252.c)<|nz o1 fun (p264:Addr)=>st (Addr.add p264 268) (.int .u8 n254)<|req (isIf r261.2=true)<|cnd (isNil r261.2) (nz o1 fun (p265:Addr)=>ld .S (Addr.add p265 256) fun (s266:Sl)=>cnd (decide ((s266.l:Int)<x25)) (nz o1 fun (p267:Addr)=>ld .S (Addr.add p267 256) fun (s268:Sl)=>nz o1 fun (p269:Addr)=>st (Addr.add p269 258) (.slice s268.a s268.l s268.c)<|nz o1 fun (p270:Addr)=>ld .S (Addr.add p270 256) fun (s271:Sl)=>K3 (s271,true,.nilIface)) (nz o1 fun (p272:Addr)=>ld (.I .u8) (Addr.add p272 263) fun (n273:Int)=>cnd (decide (n273=(3:Int))) (drw<|ld .V ⟨0,0,none⟩ fun (v274:Value)=>K3 (⟨none,0,0⟩,false,v274)) (nz o1 fun (p275:Addr)=>ld .S (Addr.add p275 270) fun (s276:Sl)=>slc 2 s276 none (some (0:Int)) none fun (s277:Sl)=>nz o1 fun (p278:Addr)=>st (Addr.add p278 270) (.slice s277.a s277.l s277.c)<|R211 ()))) (nz o1 fun (p279:Addr)=>ld (.I .u8) (Addr.add p279 263) fun (n280:Int)=>cnd (decide (n280=(3:Int))) (drw<|ld .V ⟨0,0,none⟩ fun (v281:Value)=>K3 (⟨none,0,0⟩,false,v281)) (nz o1 fun (p282:Addr)=>ld .S (Addr.add p282 270) fun (s283:Sl)=>slc 2 s283 none (some (0:Int)) none fun (s284:Sl)=>nz o1 fun (p285:Addr)=>st (Addr.add p285 270) (.slice s284.a s284.l s284.c)<|R211 ()))) (R211 ())) (R211 ()))
def q88_J10 (s0:Sl) (o1:Option Addr) (v2:Value) (K3:(Sl×Bool×Value)→PT) (x19:(Int×Bool)) (x25:Int):PT :=
 nz o1 fun (p26:Addr)=>st (Addr.add p26 267) (.bool true)<|nz o1 fun (p27:Addr)=>st (Addr.add p27 266) (.int .i64 (0:Int))<|cnd (decide ((s0.l:Int)≤x19.1)) (cnd (decide ((s0.l:Int)<x19.1)) (callP Tryd.prog 62 #[(.string ⟨#[109,97,120,67,111,117,110,116,32,62,32,108,101,110,103,116,104]⟩)] [.c .V] fun (r28:Value)=>K3 (⟨none,0,0⟩,false,r28)) (cnd (decide ((s0.l:Int)=(1:Int))) (drw<|ld .V ⟨0,0,none⟩ fun (v29:Value)=>K3 (⟨none,0,0⟩,false,v29)) (drw<|ld .V ⟨1,0,none⟩ fun (v30:Value)=>K3 (⟨none,0,0⟩,false,v30)))) (cnd (decide (x19.1=(1:Int))) (drw<|ld .V ⟨0,0,none⟩ fun (v31:Value)=>K3 (⟨none,0,0⟩,false,v31)) (req (0≤(7:Int))<|cnd (decide (x19.1<(shrI .i64 (s0.l:Int) (7:Int)))) (drw<|ld .V ⟨0,0,none⟩ fun (v32:Value)=>K3 (⟨none,0,0⟩,false,v32)) (nz o1 fun (p33:Addr)=>ld (.I .u8) (Addr.add p33 263) fun (n34:Int)=>cnd (decide (n34=(3:Int))) (cnd (!x19.2) (drw<|ld .V ⟨0,0,none⟩ fun (v35:Value)=>K3 (⟨none,0,0⟩,false,v35)) (joinP (q88_X4 s0 o1 v2 K3 x19 x25) (q88_J3 s0 o1 v2 K3 x19 x25))) (joinP (q88_X9 s0 o1 v2 K3 x19 x25) (q88_J8 s0 o1 v2 K3 x19 x25)))))
def q88_J11 (s0:Sl) (o1:Option Addr) (v2:Value) (K3:(Sl×Bool×Value)→PT) (x19:Int×Bool):PT :=
 joinP (fun R20=>nz o1 fun (p21:Addr)=>ld (.I .u8) (Addr.add p21 264) fun (n22:Int)=>cnd (decide ((0:Int)<n22)) (nz o1 fun (p23:Addr)=>ld (.I .u8) (Addr.add p23 264) fun (n24:Int)=>req (0≤n24)<|R20 (IntKind.wrap .i64 ((s0.l:Int)-(shrI .i64 (s0.l:Int) n24)))) (R20 (s0.l:Int))) (q88_J10 s0 o1 v2 K3 x19)
def q88_J12 (s0:Sl) (o1:Option Addr) (v2:Value) (K3:(Sl×Bool×Value)→PT) (x11:Unit):PT :=
 nz o1 fun (p12:Addr)=>ld (.I .i64) (Addr.add p12 266) fun (n13:Int)=>joinP (fun R14=>cnd (decide (n13=(0:Int))) (callP Tryd.prog 117 #[(.pointer o1),(.slice s0.a s0.l s0.c)] [.c (.I .i64),.c .B] fun (r15:Int×Bool)=>R14 (r15.1,r15.2)) (nz o1 fun (p16:Addr)=>ld .S (Addr.add p16 270) fun (s17:Sl)=>callP Tryd.prog 118 #[(.pointer o1),(.slice s17.a s17.l s17.c)] [.c .B] fun (r18:Bool)=>R14 (n13,r18))) (q88_J11 s0 o1 v2 K3)
def q88 (s0:Sl) (o1:Option Addr) (v2:Value) (K3:(Sl×Bool×Value)→PT):PT :=
 joinP (fun R4=>nz o1 fun (p5:Addr)=>ld (.I .u8) (Addr.add p5 263) fun (n6:Int)=>cnd (decide (n6=(2:Int))) (nz o1 fun (p7:Addr)=>ld .S (Addr.add p7 270) fun (s8:Sl)=>slc 2 s8 none (some (0:Int)) none fun (s9:Sl)=>nz o1 fun (p10:Addr)=>st (Addr.add p10 270) (.slice s9.a s9.l s9.c)<|R4 ()) (R4 ())) (q88_J12 s0 o1 v2 K3)
def h88:Hint:=⟨(.n (.n (.n (.n .e 3 ([],[1,2,0]) .e) 31 ([(9,.c (.I .i64)),(10,.c .B)],[1,2,0]) .e) 127 ([(11,.c (.I .i64))],[1,10,2,9,0]) (.n .e 8191 ([],[11,1,0,2,10]) .e)) 8191 ([],[11,1,0,2,10]) (.n (.n (.n .e 65535 ([],[10,2,0,1,11]) .e) 65535 ([],[10,2,0,1,11]) .e) 131071 ([],[11,0,2,1]) (.n .e 131071 ([],[11,0,2,1]) .e))),(.n (.n .e 146 [.c .S,.c .V] .e) 286 [.c .S,.c .V] (.n .e 344 [.c .S,.c .V] .e))⟩
theorem q88_eq (s0:Sl) (o1:Option Addr) (v2:Value) (K3:(Sl×Bool×Value)→PT):fnE Cx h88 [.c .S,.c .B,.c .V] Tryd.f88 [.v (.slice s0.a s0.l s0.c),.v (.pointer o1),.v v2] K3=q88 s0 o1 v2 K3:=by kernel_rfl
theorem q88_fnok:fnOk Tryd.f88 3=true:=by kernel_rfl
theorem q88_ok (s0:Sl) (o1:Option Addr) (v2:Value) (K3:(Sl×Bool×Value)→PT) {w:World} (h:q88 s0 o1 v2 K3 w):Calls Tryd.prog 88 #[(.slice s0.a s0.l s0.c),(.pointer o1),v2] w fun e w'=>∃r,e = .returned (resMk [.c .S,.c .B,.c .V] r)∧K3 r w' :=
 of_eq Tryd.func88 q88_fnok (by kernel_rfl) (by kernel_rfl) (q88_eq s0 o1 v2 K3) h
def q89_J0 (p0:Addr) (K2:(Sl×Value)→PT) (s4:Sl) (x9:(Sl×Int)) (R11:Sl→PT) (x14:Sl):PT :=
 slc 1 x9.1 (some (x14.l:Int)) none none fun (s15:Sl)=>ld .S (Addr.add p0 256) fun (s16:Sl)=>ld .S (Addr.add p0 256) fun (s17:Sl)=>callP Tryd.prog 120 #[(.pointer (some p0)),(.slice s17.a s17.l s17.c),(.slice x14.a x14.l x14.c)] [.c .S] fun (r18:Sl)=>st (Addr.add p0 256) (.slice r18.a r18.l r18.c)<|ld .S (Addr.add p0 256) fun (s19:Sl)=>cnd (decide ((65535:Int)<(IntKind.wrap .i64 ((s19.l:Int)-(s16.l:Int))))) (drw<|ld .V ⟨0,0,none⟩ fun (v20:Value)=>K2 (⟨none,0,0⟩,v20)) (cnd (decide (x9.2<(3:Int))) (ld .S (Addr.add p0 256) fun (s21:Sl)=>ld .S (Addr.add p0 256) fun (s22:Sl)=>ixS 1 s22 (IntKind.wrap .i64 ((IntKind.wrap .i64 (x9.2*(2:Int)))+(s4.l:Int))) fun (p23:Addr)=>st p23 (.int .u8 (IntKind.wrap .u8 (IntKind.wrap .i64 ((s21.l:Int)-(s16.l:Int)))))<|ld .S (Addr.add p0 256) fun (s24:Sl)=>req (0≤(8:Int))<|ixS 1 s24 (IntKind.wrap .i64 ((IntKind.wrap .i64 ((IntKind.wrap .i64 (x9.2*(2:Int)))+(s4.l:Int)))+(1:Int))) fun (p25:Addr)=>st p25 (.int .u8 (IntKind.wrap .u8 (shrI .i64 (IntKind.wrap .i64 ((s21.l:Int)-(s16.l:Int))) (8:Int))))<|R11 s15) (R11 s15))
def q89_J1 (x9:(Sl×Int)) (A10:(Sl×Int)→PT) (x26:Sl):PT :=
 A10 (x26,(IntKind.wrap .i64 (x9.2+(1:Int))))
def q89_L2 (p0:Addr) (s1:Sl) (K2:(Sl×Value)→PT) (s4:Sl) (R8:Unit→PT) (x9:Sl×Int) (A10:(Sl×Int)→PT):PT :=
 cnd (decide (x9.2<(4:Int))) (joinP (fun R11=>joinP (fun R12=>cnd (decide ((quoI .i64 (IntKind.wrap .i64 ((s1.l:Int)+(3:Int))) (4:Int))<(x9.1.l:Int))) (slc 1 x9.1 none (some (quoI .i64 (IntKind.wrap .i64 ((s1.l:Int)+(3:Int))) (4:Int))) none fun (s13:Sl)=>R12 s13) (R12 x9.1)) (q89_J0 p0 K2 s4 x9 R11)) (q89_J1 x9 A10)) (R8 ())
def q89_J3 (p0:Addr) (K2:(Sl×Value)→PT) (x27:Unit):PT :=
 ld .S (Addr.add p0 256) fun (s28:Sl)=>K2 (s28,.nilIface)
def q89 (p0:Addr) (s1:Sl) (K2:(Sl×Value)→PT):PT :=
 cnd (decide ((s1.l:Int)<(12:Int))) (drw<|ld .V ⟨0,0,none⟩ fun (v3:Value)=>K2 (⟨none,0,0⟩,v3)) (req ((4:Int)≠0)<|ld .S (Addr.add p0 256) fun (s4:Sl)=>ld .S (Addr.add p0 256) fun (s5:Sl)=>nw [(.int .u8 (0:Int)),(.int .u8 (0:Int)),(.int .u8 (0:Int)),(.int .u8 (0:Int)),(.int .u8 (0:Int)),(.int .u8 (0:Int))] 5 fun (p6:Addr)=>app z5 5 1 s5 ⟨(some p6),6,6⟩ fun (s7:Sl)=>st (Addr.add p0 256) (.slice s7.a s7.l s7.c)<|joinP (fun R8=>loopP (s1,(0:Int)) (q89_L2 p0 s1 K2 s4 R8)) (q89_J3 p0 K2))
def h89:Hint:=⟨(.n (.n (.n .e 63 ([],[0]) .e) 506 ([(1,.c .S),(34,.c (.I .i64))],[0,7,6]) .e) 4051 ([(1,.c .S)],[34,0,7,6]) (.n .e 64819 ([(9,.c .S)],[1,6,7,0,34,8]) .e)),.e⟩
theorem q89_eq (p0:Addr) (s1:Sl) (K2:(Sl×Value)→PT):fnE Cx h89 [.c .S,.c .V] Tryd.f89 [.pt p0,.v (.slice s1.a s1.l s1.c)] K2=q89 p0 s1 K2:=by kernel_rfl
theorem q89_fnok:fnOk Tryd.f89 2=true:=by kernel_rfl
theorem q89_ok (p0:Addr) (s1:Sl) (K2:(Sl×Value)→PT) {w:World} (h:q89 p0 s1 K2 w):Calls Tryd.prog 89 #[(.pointer (some p0)),(.slice s1.a s1.l s1.c)] w fun e w'=>∃r,e = .returned (resMk [.c .S,.c .V] r)∧K2 r w' :=
 of_eq Tryd.func89 q89_fnok (by kernel_rfl) (by kernel_rfl) (q89_eq p0 s1 K2) h
def q90 (p0:Addr) (s1:Sl) (K2:(Sl×Value)→PT):PT :=
 ld .S (Addr.add p0 256) fun (s3:Sl)=>callP Tryd.prog 120 #[(.pointer (some p0)),(.slice s3.a s3.l s3.c),(.slice s1.a s1.l s1.c)] [.c .S] fun (r4:Sl)=>K2 (r4,.nilIface)
def h90:Hint:=⟨.e,.e⟩
theorem q90_eq (p0:Addr) (s1:Sl) (K2:(Sl×Value)→PT):fnE Cx h90 [.c .S,.c .V] Tryd.f90 [.pt p0,.v (.slice s1.a s1.l s1.c)] K2=q90 p0 s1 K2:=by kernel_rfl
theorem q90_fnok:fnOk Tryd.f90 2=true:=by kernel_rfl
theorem q90_ok (p0:Addr) (s1:Sl) (K2:(Sl×Value)→PT) {w:World} (h:q90 p0 s1 K2 w):Calls Tryd.prog 90 #[(.pointer (some p0)),(.slice s1.a s1.l s1.c)] w fun e w'=>∃r,e = .returned (resMk [.c .S,.c .V] r)∧K2 r w' :=
 of_eq Tryd.func90 q90_fnok (by kernel_rfl) (by kernel_rfl) (q90_eq p0 s1 K2) h
def q91_L0 (p0:Addr) (R4:Unit→PT) (s11:Sl) (x12:Int) (A13:Int→PT):PT :=
 cnd (decide (x12<(s11.l:Int))) (ld .S (Addr.add p0 271) fun (s14:Sl)=>ixS 2 s14 x12 fun (p15:Addr)=>stL p15 0 [(.int .u16 (0:Int)),(.int .u8 (0:Int))]<|A13 (IntKind.wrap .i64 (x12+(1:Int)))) (R4 ())
def q91_L1 (s20:Sl) (R23:Int→PT) (x24:Int) (A25:Int→PT):PT :=
 ixS 1 s20 x24 fun (p26:Addr)=>callP Tryd.prog 123 #[(.pointer (some p26))] [.c (.I .u32)] fun (r27:Int)=>cnd (decide (r27=(0:Int))) (A25 (IntKind.wrap .u16 (x24-(1:Int)))) (R23 x24)
def q91_L2 (n17:Int) (s20:Sl) (x28:(Int)) (R39:Unit→PT) (x40:Int) (A41:Int→PT):PT :=
 cnd (decide (x40≤(IntKind.wrap .i16 ((IntKind.wrap .i16 ((IntKind.wrap .i16 n17)+(IntKind.wrap .i16 x28)))-(1:Int))))) (ixS 1 s20 x40 fun (p42:Addr)=>callP Tryd.prog 124 #[(.pointer (some p42)),(.int .u32 (1073741824:Int))] [] fun (r43:Unit)=>A41 (IntKind.wrap .i16 (x40+(1:Int)))) (R39 ())
def q91_J3 (s20:Sl) (s22:Sl) (x48:(Int×Int×Int)) (A49:(Int×Int×Int)→PT) (x55:(Int×Int×Int)) (x61:Int×Int×Int):PT :=
 drw<|ixS 1 s20 x48.1 fun (p62:Addr)=>ixS 1 s22 (IntKind.wrap .i16 (x55.2.2+(1:Int))) fun (p63:Addr)=>ixS 1 s22 (IntKind.wrap .i16 (x61.2.2+(1:Int))) fun (p64:Addr)=>callP Tryd.prog 123 #[(.pointer (some p63))] [.c (.I .u32)] fun (r65:Int)=>callP Tryd.prog 123 #[(.pointer (some p64))] [.c (.I .u32)] fun (r66:Int)=>callP Tryd.prog 124 #[(.pointer (some p62)),(.int .u32 (IntKind.wrap .u32 (r65+r66)))] [] fun (r67:Unit)=>ixS 1 s22 (IntKind.wrap .i16 (x55.2.2+(1:Int))) fun (p68:Addr)=>callP Tryd.prog 125 #[(.pointer (some p68)),(.int .i16 x48.1)] [] fun (r69:Unit)=>ixS 1 s22 (IntKind.wrap .i16 (x61.2.2+(1:Int))) fun (p70:Addr)=>callP Tryd.prog 125 #[(.pointer (some p70)),(.int .i16 x48.1)] [] fun (r71:Unit)=>A49 ((IntKind.wrap .i16 (x48.1+(1:Int))),x61.1,x61.2.1)
def q91_X4 (s22:Sl) (x55:(Int×Int×Int)) (R56:(Int×Int×Int)→PT):PT :=
 drw<|ixS 1 s22 (IntKind.wrap .i16 (x55.1+(1:Int))) fun (p57:Addr)=>ixS 1 s22 (IntKind.wrap .i16 (x55.2.1+(1:Int))) fun (p58:Addr)=>callP Tryd.prog 123 #[(.pointer (some p57))] [.c (.I .u32)] fun (r59:Int)=>callP Tryd.prog 123 #[(.pointer (some p58))] [.c (.I .u32)] fun (r60:Int)=>cnd (decide (r59<r60)) (R56 ((IntKind.wrap .i16 (x55.1-(1:Int))),x55.2.1,x55.1)) (R56 (x55.1,(IntKind.wrap .i16 (x55.2.1+(1:Int))),x55.2.1))
def q91_J5 (s20:Sl) (s22:Sl) (x48:(Int×Int×Int)) (A49:(Int×Int×Int)→PT) (x55:Int×Int×Int):PT :=
 joinP (q91_X4 s22 x55) (q91_J3 s20 s22 x48 A49 x55)
def q91_X6 (s22:Sl) (x48:(Int×Int×Int)) (R50:(Int×Int×Int)→PT):PT :=
 drw<|ixS 1 s22 (IntKind.wrap .i16 (x48.2.1+(1:Int))) fun (p51:Addr)=>ixS 1 s22 (IntKind.wrap .i16 (x48.2.2+(1:Int))) fun (p52:Addr)=>callP Tryd.prog 123 #[(.pointer (some p51))] [.c (.I .u32)] fun (r53:Int)=>callP Tryd.prog 123 #[(.pointer (some p52))] [.c (.I .u32)] fun (r54:Int)=>cnd (decide (r53<r54)) (R50 ((IntKind.wrap .i16 (x48.2.1-(1:Int))),x48.2.2,x48.2.1)) (R50 (x48.2.1,(IntKind.wrap .i16 (x48.2.2+(1:Int))),x48.2.2))
def q91_L7 (n17:Int) (s20:Sl) (s22:Sl) (x28:(Int)) (R47:Unit→PT) (x48:Int×Int×Int) (A49:(Int×Int×Int)→PT):PT :=
 cnd (decide (x48.1≤(IntKind.wrap .i16 ((IntKind.wrap .i16 ((IntKind.wrap .i16 n17)+(IntKind.wrap .i16 x28)))-(1:Int))))) (joinP (q91_X6 s22 x48) (q91_J5 s20 s22 x48 A49)) (R47 ())
def q91_L8 (n17:Int) (s20:Sl) (R75:Unit→PT) (x76:Int) (A77:Int→PT):PT :=
 cnd (decide ((IntKind.wrap .i16 n17)≤x76)) (drw<|ixS 1 s20 x76 fun (p78:Addr)=>ixS 1 s20 x76 fun (p79:Addr)=>callP Tryd.prog 127 #[(.pointer (some p79))] [.c (.I .u16)] fun (r80:Int)=>ixS 1 s20 r80 fun (p81:Addr)=>callP Tryd.prog 128 #[(.pointer (some p81))] [.c (.I .u8)] fun (r82:Int)=>callP Tryd.prog 126 #[(.pointer (some p78)),(.int .u8 (IntKind.wrap .u8 (r82+(1:Int))))] [] fun (r83:Unit)=>A77 (IntKind.wrap .i16 (x76-(1:Int)))) (R75 ())
def q91_L9 (s20:Sl) (x28:(Int)) (R85:Unit→PT) (x86:Int) (A87:Int→PT):PT :=
 cnd (decide (x86≤x28)) (drw<|ixS 1 s20 x86 fun (p88:Addr)=>ixS 1 s20 x86 fun (p89:Addr)=>callP Tryd.prog 127 #[(.pointer (some p89))] [.c (.I .u16)] fun (r90:Int)=>ixS 1 s20 r90 fun (p91:Addr)=>callP Tryd.prog 128 #[(.pointer (some p91))] [.c (.I .u8)] fun (r92:Int)=>callP Tryd.prog 126 #[(.pointer (some p88)),(.int .u8 (IntKind.wrap .u8 (r92+(1:Int))))] [] fun (r93:Unit)=>A87 (IntKind.wrap .u16 (x86+(1:Int)))) (R85 ())
def q91_L10 (p98:Addr) (R100:Unit→PT) (s101:Sl) (x102:Int) (A103:Int→PT):PT :=
 cnd (decide (x102<(s101.l:Int))) (ixS 1 s101 x102 fun (p104:Addr)=>ld (.I .u64) p104 fun (n105:Int)=>nw z196 196 fun (p106:Addr)=>st p106 (.int .u64 n105)<|callP Tryd.prog 128 #[(.pointer (some p106))] [.c (.I .u8)] fun (r107:Int)=>ixA 1 12 p98 r107 fun (p108:Addr)=>ld (.I .u16) p108 fun (n109:Int)=>ixA 1 12 p98 r107 fun (p110:Addr)=>st p110 (.int .u16 (IntKind.wrap .u16 (n109+(1:Int))))<|A103 (IntKind.wrap .i64 (x102+(1:Int)))) (R100 ())
def q91_L11 (p98:Addr) (p99:Addr) (R112:Unit→PT) (x113:Int×Int) (A114:(Int×Int)→PT):PT :=
 cnd (decide ((0:Int)<x113.2)) (ixA 1 16 p99 x113.2 fun (p115:Addr)=>st p115 (.int .u16 x113.1)<|ixA 1 12 p98 x113.2 fun (p116:Addr)=>ld (.I .u16) p116 fun (n117:Int)=>req (0≤(1:Int))<|A114 ((shrI .u16 (IntKind.wrap .u16 (x113.1+n117)) (1:Int)),(IntKind.wrap .u8 (x113.2-(1:Int))))) (R112 ())
def q91_L12 (p0:Addr) (R119:Unit→PT) (s120:Sl) (x121:Int) (A122:Int→PT):PT :=
 cnd (decide (x121<(s120.l:Int))) (ixS 1 s120 x121 fun (p123:Addr)=>ld (.I .u64) p123 fun (n124:Int)=>nw z196 196 fun (p125:Addr)=>st p125 (.int .u64 n124)<|drw<|ld .S (Addr.add p0 271) fun (s126:Sl)=>callP Tryd.prog 130 #[(.pointer (some p125))] [.c (.I .u8)] fun (r127:Int)=>kp [((Addr.add p0 271),(.slice s126.a s126.l s126.c))]<|callP Tryd.prog 128 #[(.pointer (some p125))] [.c (.I .u8)] fun (r128:Int)=>kp [((Addr.add p0 271),(.slice s126.a s126.l s126.c))]<|ixS 2 s126 r127 fun (p129:Addr)=>st (Addr.add p129 1) (.int .u8 r128)<|A122 (IntKind.wrap .i64 (x121+(1:Int)))) (R119 ())
def q91_L13 (p99:Addr) (s133:Sl) (R134:Unit→PT) (x135:Int) (A136:Int→PT):PT :=
 cnd (decide (x135<(s133.l:Int))) (ixS 2 s133 x135 fun (p137:Addr)=>ldL [(.I .u16),(.I .u8)] p137 0 fun (r138:(Int×Int))=>nw z140 140 fun (p139:Addr)=>stL p139 0 [(.int .u16 r138.1),(.int .u8 r138.2)]<|ld (.I .u8) (Addr.add p139 1) fun (n140:Int)=>ixA 1 16 p99 (andI .u8 n140 (15:Int)) fun (p141:Addr)=>ld (.I .u16) p141 fun (n142:Int)=>ixS 2 s133 x135 fun (p143:Addr)=>st p143 (.int .u16 n142)<|ixA 1 16 p99 (andI .u8 n140 (15:Int)) fun (p144:Addr)=>st p144 (.int .u16 (IntKind.wrap .u16 (n142+(1:Int))))<|A136 (IntKind.wrap .i64 (x135+(1:Int)))) (R134 ())
def q91_J14 (K1:(Value)→PT) (x145:Unit):PT :=
 K1 .nilIface
def q91_J15 (p0:Addr) (K1:(Value)→PT) (p99:Addr) (x130:Unit):PT :=
 drw<|ld .S (Addr.add p0 271) fun (s131:Sl)=>ld (.I .u16) (Addr.add p0 265) fun (n132:Int)=>slc 2 s131 none (some n132) none fun (s133:Sl)=>joinP (fun R134=>loopP (0:Int) (q91_L13 p99 s133 R134)) (q91_J14 K1)
def q91_J16 (p0:Addr) (K1:(Value)→PT) (s20:Sl) (x28:(Int)) (p99:Addr) (x118:Unit):PT :=
 joinP (fun R119=>slc 1 s20 none (some (IntKind.wrap .u16 (x28+(1:Int)))) none fun (s120:Sl)=>loopP (0:Int) (q91_L12 p0 R119 s120)) (q91_J15 p0 K1 p99)
def q91_J17 (p0:Addr) (K1:(Value)→PT) (s20:Sl) (x28:(Int)) (n96:Int) (p98:Addr) (p99:Addr) (x111:Unit):PT :=
 joinP (fun R112=>loopP ((0:Int),n96) (q91_L11 p98 p99 R112)) (q91_J16 p0 K1 s20 x28 p99)
def q91_J18 (p0:Addr) (K1:(Value)→PT) (s20:Sl) (x28:(Int)) (x94:Unit):PT :=
 callP Tryd.prog 129 #[(.pointer (some p0)),(.int .i64 (IntKind.wrap .i64 x28))] [.c (.I .u8)] fun (r95:Int)=>st (Addr.add p0 268) (.int .u8 r95)<|ld (.I .u8) (Addr.add p0 268) fun (n96:Int)=>cnd (decide ((11:Int)<n96)) (callP Tryd.prog 62 #[(.string ⟨#[105,110,116,101,114,110,97,108,32,101,114,114,111,114,58,32,109,97,120,78,98,66,105,116,115,32,62,32,116,97,98,108,101,76,111,103,77,97,120]⟩)] [.c .V] fun (r97:Value)=>K1 r97) (nw z202 202 fun (p98:Addr)=>nw z203 203 fun (p99:Addr)=>joinP (fun R100=>slc 1 s20 none (some (IntKind.wrap .u16 (x28+(1:Int)))) none fun (s101:Sl)=>loopP (0:Int) (q91_L10 p98 R100 s101)) (q91_J17 p0 K1 s20 x28 n96 p98 p99))
def q91_J19 (p0:Addr) (K1:(Value)→PT) (s20:Sl) (x28:(Int)) (x84:Unit):PT :=
 joinP (fun R85=>loopP (0:Int) (q91_L9 s20 x28 R85)) (q91_J18 p0 K1 s20 x28)
def q91_J20 (p0:Addr) (K1:(Value)→PT) (n17:Int) (s20:Sl) (x28:(Int)) (x72:Unit):PT :=
 ixS 1 s20 (IntKind.wrap .i16 ((IntKind.wrap .i16 ((IntKind.wrap .i16 n17)+(IntKind.wrap .i16 x28)))-(1:Int))) fun (p73:Addr)=>callP Tryd.prog 126 #[(.pointer (some p73)),(.int .u8 (0:Int))] [] fun (r74:Unit)=>joinP (fun R75=>loopP (IntKind.wrap .i16 ((IntKind.wrap .i16 ((IntKind.wrap .i16 ((IntKind.wrap .i16 n17)+(IntKind.wrap .i16 x28)))-(1:Int)))-(1:Int))) (q91_L8 n17 s20 R75)) (q91_J19 p0 K1 s20 x28)
def q91_J21 (p0:Addr) (K1:(Value)→PT) (n17:Int) (s20:Sl) (s22:Sl) (x28:(Int)) (x44:Unit):PT :=
 ixS 1 s22 (0:Int) fun (p45:Addr)=>callP Tryd.prog 124 #[(.pointer (some p45)),(.int .u32 (2147483648:Int))] [] fun (r46:Unit)=>joinP (fun R47=>loopP ((IntKind.wrap .i16 ((IntKind.wrap .i16 n17)+(1:Int))),(IntKind.wrap .i16 ((IntKind.wrap .i16 x28)-(2:Int))),(IntKind.wrap .i16 n17)) (q91_L7 n17 s20 s22 x28 R47)) (q91_J20 p0 K1 n17 s20 x28)
def q91_J22 (p0:Addr) (K1:(Value)→PT) (n17:Int) (s20:Sl) (s22:Sl) (x28:Int):PT :=
 drw<|ixS 1 s20 (IntKind.wrap .i16 n17) fun (p29:Addr)=>ixS 1 s20 (IntKind.wrap .i16 x28) fun (p30:Addr)=>ixS 1 s20 (IntKind.wrap .i16 ((IntKind.wrap .i16 x28)-(1:Int))) fun (p31:Addr)=>callP Tryd.prog 123 #[(.pointer (some p30))] [.c (.I .u32)] fun (r32:Int)=>callP Tryd.prog 123 #[(.pointer (some p31))] [.c (.I .u32)] fun (r33:Int)=>callP Tryd.prog 124 #[(.pointer (some p29)),(.int .u32 (IntKind.wrap .u32 (r32+r33)))] [] fun (r34:Unit)=>ixS 1 s20 (IntKind.wrap .i16 x28) fun (p35:Addr)=>callP Tryd.prog 125 #[(.pointer (some p35)),(.int .i16 (IntKind.wrap .i16 n17))] [] fun (r36:Unit)=>ixS 1 s20 (IntKind.wrap .i16 ((IntKind.wrap .i16 x28)-(1:Int))) fun (p37:Addr)=>callP Tryd.prog 125 #[(.pointer (some p37)),(.int .i16 (IntKind.wrap .i16 n17))] [] fun (r38:Unit)=>joinP (fun R39=>loopP (IntKind.wrap .i16 ((IntKind.wrap .i16 n17)+(1:Int))) (q91_L2 n17 s20 x28 R39)) (q91_J21 p0 K1 n17 s20 s22 x28)
def q91_J23 (p0:Addr) (K1:(Value)→PT) (x16:Unit):PT :=
 ld (.I .u16) (Addr.add p0 265) fun (n17:Int)=>ld (.I .u16) (Addr.add p0 265) fun (n18:Int)=>ld .S (Addr.add p0 273) fun (s19:Sl)=>slc 1 s19 (some (1:Int)) (some (513:Int)) none fun (s20:Sl)=>ld .S (Addr.add p0 273) fun (s21:Sl)=>slc 1 s21 (some (0:Int)) (some (513:Int)) none fun (s22:Sl)=>joinP (fun R23=>loopP (IntKind.wrap .u16 (n18-(1:Int))) (q91_L1 s20 R23)) (q91_J22 p0 K1 n17 s20 s22)
def q91_X24 (p0:Addr) (R4:Unit→PT):PT :=
 ld .S (Addr.add p0 271) fun (s5:Sl)=>cnd (decide ((s5.c:Int)<(256:Int))) (ld (.I .u16) (Addr.add p0 265) fun (n6:Int)=>mks z140 140 4 n6 (256:Int) fun (s7:Sl)=>st (Addr.add p0 271) (.slice s7.a s7.l s7.c)<|R4 ()) (drw<|ld .S (Addr.add p0 271) fun (s8:Sl)=>ld (.I .u16) (Addr.add p0 265) fun (n9:Int)=>slc 2 s8 none (some n9) none fun (s10:Sl)=>st (Addr.add p0 271) (.slice s10.a s10.l s10.c)<|ld .S (Addr.add p0 271) fun (s11:Sl)=>loopP (0:Int) (q91_L0 p0 R4 s11))
def q91 (p0:Addr) (K1:(Value)→PT):PT :=
 callP Tryd.prog 121 #[(.pointer (some p0))] [] fun (r2:Unit)=>callP Tryd.prog 122 #[(.pointer (some p0))] [] fun (r3:Unit)=>joinP (q91_X24 p0) (q91_J23 p0 K1)
def h91:Hint:=⟨(.n (.n (.n (.n (.n .e 15 ([],[0]) .e) 990 ([(66,.c (.I .i64))],[0,65]) .e) 1023 ([(5,.c (.I .u16))],[6,7,8,0,4]) (.n (.n .e 4092 ([(5,.c (.I .u16))],[6,7,8,0,4]) .e) 524287 ([],[6,8,7,11,9,10,0,5,4]) .e)) 2097151 ([],[10,7,0,5,4]) (.n (.n (.n .e 4194298 ([(12,.c (.I .i16))],[7,6,8,11,9,10,0,5,4]) .e) 8388604 ([(6,.c (.I .i16)),(9,.c (.I .i16)),(11,.c (.I .i16))],[8,7,10,0,5,4]) .e) 8388607 ([],[7,0,5]) (.n (.n .e 16777215 ([],[0,5,7]) .e) 67108858 ([(15,.c (.I .i16))],[7,0,5,4]) .e))) 134217669 ([(9,.c (.I .i16)),(11,.c (.I .i16)),(13,.c (.I .i16))],[6,8,7,10,0,5,4]) (.n (.n (.n (.n .e 134217722 ([(16,.c (.I .u16))],[7,0,5]) .e) 268435339 ([(9,.c (.I .i16)),(11,.c (.I .i16)),(14,.c (.I .i16))],[13,6,8,7,10,0,5,4]) .e) 1073741823 ([],[17,18,19,7,5,0]) (.n (.n .e 2147483647 ([],[7,5,0,19]) .e) 4294967295 ([],[0,19]) .e)) 8589934586 ([(279,.c (.I .i64))],[18,277,17,19,7,5,0,278]) (.n (.n (.n .e 17179869183 ([],[]) .e) 34359738358 ([(22,.c (.I .u16)),(23,.c (.I .u8))],[18,19,7,5,0]) .e) 34359738362 ([(309,.c (.I .i64))],[0,307,19,308]) (.n .e 137438953466 ([(333,.c (.I .i64))],[19,26,331,332]) .e)))),.e⟩
theorem q91_eq (p0:Addr) (K1:(Value)→PT):fnE Cx h91 [.c .V] Tryd.f91 [.pt p0] K1=q91 p0 K1:=by kernel_rfl
theorem q91_fnok:fnOk Tryd.f91 1=true:=by kernel_rfl
theorem q91_ok (p0:Addr) (K1:(Value)→PT) {w:World} (h:q91 p0 K1 w):Calls Tryd.prog 91 #[(.pointer (some p0))] w fun e w'=>∃r,e = .returned (resMk [.c .V] r)∧K1 r w' :=
 of_eq Tryd.func91 q91_fnok (by kernel_rfl) (by kernel_rfl) (q91_eq p0 K1) h
def q92 (p0:Addr) (s1:Sl) (K2:Unit→PT):PT :=
 st p0 (.slice s1.a s1.l s1.c)<|st (Addr.add p0 1) (.int .i64 (0:Int))<|K2 ()
def h92:Hint:=⟨.e,.e⟩
theorem q92_eq (p0:Addr) (s1:Sl) (K2:Unit→PT):fnE Cx h92 [] Tryd.f92 [.pt p0,.v (.slice s1.a s1.l s1.c)] K2=q92 p0 s1 K2:=by kernel_rfl
theorem q92_fnok:fnOk Tryd.f92 2=true:=by kernel_rfl
theorem q92_ok (p0:Addr) (s1:Sl) (K2:Unit→PT) {w:World} (h:q92 p0 s1 K2 w):Calls Tryd.prog 92 #[(.pointer (some p0)),(.slice s1.a s1.l s1.c)] w fun e w'=>∃r,e = .returned (resMk [] r)∧K2 r w' :=
 of_eq Tryd.func92 q92_fnok (by kernel_rfl) (by kernel_rfl) (q92_eq p0 s1 K2) h
def q93 (r0:(Sl×Int)) (K1:Int→PT):PT :=
 nw [(.slice r0.1.a r0.1.l r0.1.c),(.int .i64 r0.2)] 122 fun (p2:Addr)=>ld .S p2 fun (s3:Sl)=>ld (.I .i64) (Addr.add p2 1) fun (n4:Int)=>K1 (IntKind.wrap .i64 ((s3.l:Int)-n4))
def h93:Hint:=⟨.e,.e⟩
theorem q93_eq (r0:(Sl×Int)) (K1:Int→PT):fnE Cx h93 [.c (.I .i64)] Tryd.f93 [.v (.agg ⟨[(.slice r0.1.a r0.1.l r0.1.c),(.int .i64 r0.2)]⟩)] K1=q93 r0 K1:=by kernel_rfl
theorem q93_fnok:fnOk Tryd.f93 1=true:=by kernel_rfl
theorem q93_ok (r0:(Sl×Int)) (K1:Int→PT) {w:World} (h:q93 r0 K1 w):Calls Tryd.prog 93 #[(.agg ⟨[(.slice r0.1.a r0.1.l r0.1.c),(.int .i64 r0.2)]⟩)] w fun e w'=>∃r,e = .returned (resMk [.c (.I .i64)] r)∧K1 r w' :=
 of_eq Tryd.func93 q93_fnok (by kernel_rfl) (by kernel_rfl) (q93_eq r0 K1) h
def q97 (n0:Int) (K1:Int→PT):PT :=
 req (0≤(1:Int))<|req (0≤(3:Int))<|K1 (IntKind.wrap .u32 ((IntKind.wrap .u32 ((shrI .u32 n0 (1:Int))+(shrI .u32 n0 (3:Int))))+(3:Int)))
def h97:Hint:=⟨.e,.e⟩
theorem q97_eq (n0:Int) (K1:Int→PT):fnE Cx h97 [.c (.I .u32)] Tryd.f97 [.v (.int .u32 n0)] K1=q97 n0 K1:=by kernel_rfl
theorem q97_fnok:fnOk Tryd.f97 1=true:=by kernel_rfl
theorem q97_ok (n0:Int) (K1:Int→PT) {w:World} (h:q97 n0 K1 w):Calls Tryd.prog 97 #[(.int .u32 n0)] w fun e w'=>∃r,e = .returned (resMk [.c (.I .u32)] r)∧K1 r w' :=
 of_eq Tryd.func97 q97_fnok (by kernel_rfl) (by kernel_rfl) (q97_eq n0 K1) h
def q98 (n0:Int) (K1:Int→PT):PT :=
 callP Tryd.prog 81 #[(.int .u32 n0)] [.c (.I .i64)] fun (r2:Int)=>K1 (IntKind.wrap .u32 (IntKind.wrap .i64 (r2-(1:Int))))
def h98:Hint:=⟨.e,.e⟩
theorem q98_eq (n0:Int) (K1:Int→PT):fnE Cx h98 [.c (.I .u32)] Tryd.f98 [.v (.int .u32 n0)] K1=q98 n0 K1:=by kernel_rfl
theorem q98_fnok:fnOk Tryd.f98 1=true:=by kernel_rfl
theorem q98_ok (n0:Int) (K1:Int→PT) {w:World} (h:q98 n0 K1 w):Calls Tryd.prog 98 #[(.int .u32 n0)] w fun e w'=>∃r,e = .returned (resMk [.c (.I .u32)] r)∧K1 r w' :=
 of_eq Tryd.func98 q98_fnok (by kernel_rfl) (by kernel_rfl) (q98_eq n0 K1) h
end Go.Sx
namespace Go.Sx
open Go Go.Proofs
def bitZ (l:List Nat) (n:Int):Nat:=if n<0 then 0 else leN l/2^n.toNat%2
def inZ (l:List Nat) (n:Int):Bool:=decide (0≤n∧n<8*l.length)
theorem Arr.ldk {k:IntKind} {w:World} {s:Sl} {l:List Nat} (h:Arr k w s l) {i:Int} (n:Nat) {κ:Addr→PT} (hi:i=n) (hn:n<l.length) (hk:∀p,w.cell? p=some (.int k (l[n]:Nat))→κ p w):ixS 1 s i κ w:=by
 cases ha:s.a with
 | none=>have:=h.non ha;subst this;simp at hn
 | some b=>exact ⟨b,ha,n,hi,h.len▸hn,by rw [Nat.mul_one];exact hk _ (h.get b ha n hn)⟩
theorem ld_c {w:World} {t:CT} {p:Addr} {x:t.ty} {κ:t.ty→PT} (h:w.cell? p=some (t.mk x)) (hk:κ x w):ld t p κ w:=⟨x,h,hk⟩
theorem c76 {w:World} {s:Sl} {l:List Nat} {n:Int} {K:Int×Bool→PT} (h:Arr .u8 w s l) (hl:By l) (h1 : -4611686018427387904≤n) (h2:n<4611686018427387904)
  (hk:K ((bitZ l n:Nat),inZ l n) w):callP Tryd.prog 76 #[.slice s.a s.l s.c,.int .i64 n] [.c (.I .i64),.c .B] K w:=by
 apply q76_ok
 unfold q76
 refine cnd_d ?_ ?_
 ·intro hn
  unfold bitZ inZ at hk
  rw [if_pos hn] at hk
  rw [show decide (0≤n∧n<8*(l.length:Int))=false by simp;omega] at hk
  exact hk
 ·intro hn
  obtain ⟨m,rfl⟩:=Int.eq_ofNat_of_zero_le (show 0≤n by omega)
  have e8:quoI .i64 (m:Int) 8=((m/8:Nat):Int):=quoI_nat .i64 m 8 (by simp [IntKind.bits];omega)
  rw [e8]
  have hlen:=h.len
  refine ⟨by decide,cnd_d ?_ ?_⟩
  ·intro hc
   unfold bitZ inZ at hk
   rw [if_neg hn] at hk
   rw [show decide ((0:Int)≤(m:Int)∧(m:Int)<8*(l.length:Int))=false by simp;omega] at hk
   rw [Int.toNat_natCast,leN_bit m hl,getD_out (by omega)] at hk
   simpa using hk
  ·intro hc
   refine ⟨by decide,h.ldk (m/8) rfl (by omega) ?_⟩
   intro p hp
   refine ld_c (t := .I .u8) hp ⟨by decide,?_⟩
   have e9:Int.tmod (m:Int) 8=((m%8:Nat):Int):=rfl
   rw [e9]
   refine ⟨Int.natCast_nonneg _,?_⟩
   have hx:l[m/8]<256:=hl _ (List.getElem_mem _)
   rw [shrI_nat .u8 _ _ hx,wrap_nat .i64 _ (by have:=Nat.div_le_self l[m/8] (2^(m%8));simp [IntKind.bits];omega)]
   have e10:=andI_i64 (l[m/8]/2^(m%8)) 1 (by have:=Nat.div_le_self l[m/8] (2^(m%8));omega) (by decide)
   rw [Int.natCast_one] at e10
   rw [e10,Nat.and_one_is_mod]
   unfold bitZ inZ at hk
   rw [if_neg hn] at hk
   rw [show decide ((0:Int)≤(m:Int)∧(m:Int)<8*(l.length:Int))=true by simp;omega] at hk
   rw [Int.toNat_natCast,leN_bit m hl,getD_in (by omega)] at hk
   exact hk
theorem c44 {w:World} {n:Nat} {K:Int→PT} (h1:0<n) (h2:n<4611686018427387904) (hk:K (n.log2:Nat) w):callP Tryd.prog 44 #[.int .i64 n] [.c (.I .i64)] K w:=by
 apply q44_ok
 unfold q44
 refine ⟨fun k w'=>k=(n.log2:Nat)∧w'=w,?_,?_⟩
 ·rintro k w' ⟨rfl,rfl⟩
  exact hk
 ·refine ⟨fun s w'=>w'=w∧∃a k:Nat,s=((a:Int),(k:Int))∧0<a∧a≤n∧k≤n∧a.log2+k=n.log2,fun s _=>s.1.toNat,⟨rfl,n,0,rfl,h1,Nat.le_refl _,Nat.zero_le _,rfl⟩,?_⟩
  rintro s w' ⟨rfl,a,k,rfl,ha,han,hkn,he⟩
  unfold q44_L0
  refine cnd_d ?_ ?_
  ·intro hc
   have hc:1<a:=by simp only at hc;omega
   have e1:quoI .i64 (a:Int) 2=((a/2:Nat):Int):=quoI_nat .i64 a 2 (by simp [IntKind.bits];omega)
   have hlog:a.log2=(a/2).log2+1:=by rw [Nat.log2_def,if_pos (by omega)]
   have hlt:k<n:=by
    have:=Nat.log2_lt (n:=n) (k:=n) (by omega) |>.mpr (Nat.lt_two_pow_self)
    omega
   rw [e1,wI64 (by simp only;omega) (by simp only;omega)]
   refine ⟨by decide,⟨rfl,a/2,k+1,by simp,by omega,by omega,by omega,by omega⟩,?_⟩
   simp only [Int.toNat_natCast]
   omega
  ·intro hc
   have:a=1:=by simp at hc;omega
   subst this
   refine ⟨?_,rfl⟩
   have:Nat.log2 1=0:=by decide
   simp only
   congr 1
   omega
end Go.Sx
