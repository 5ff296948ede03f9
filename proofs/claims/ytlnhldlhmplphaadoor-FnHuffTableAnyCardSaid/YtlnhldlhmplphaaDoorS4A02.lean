/- Lemmas for the proof: C9 T M V N P00 P01 P02. No conditions. -/
import Derived.Test.YtlnhldlhmplphaaDoorS4A01
set_option linter.unusedVariables false
set_option linter.unusedSimpArgs false
namespace Go.Sx
open Go
def cellB:Value→Value→Bool
 | .int k n,.int k' n'=>IntKind.same k k'&&decide (n=n')
 | .bool a,.bool b=>match a,b with
  | true,true=>true
  | false,false=>true
  | _,_=>false
 | .slice none l c,.slice none l' c'=>Nat.beq l l'&&Nat.beq c c'
 | .pointer none,.pointer none=>true
 | .nilIface,.nilIface=>true
 | .nilFunc,.nilFunc=>true
 | .string a,.string b=>a.data.toList.isEmpty&&b.data.toList.isEmpty
 | _,_=>false
def cellsB:List Value→List Value→Bool
 | [],[]=>true
 | a::r,b::s=>cellB a b&&cellsB r s
 | _,_=>false
theorem cellB_eq {a b:Value} (h:cellB a b=true):a=b:=by
 cases a<;>cases b<;>first|(simp [cellB] at h;done)|skip
 case bool.bool a b=>cases a<;>cases b<;>first|rfl|(simp [cellB] at h;done)
 case int.int =>
  simp only [cellB,Bool.and_eq_true,decide_eq_true_eq] at h
  rw [same_eq h.1,h.2]
 case string.string a b =>
  simp only [cellB,Bool.and_eq_true,List.isEmpty_iff] at h
  obtain ⟨⟨a⟩⟩:=a
  obtain ⟨⟨b⟩⟩:=b
  simp only at h
  rw [h.1,h.2]
 case pointer.pointer a b=>cases a<;>cases b<;>first|rfl|(simp [cellB] at h;done)
 case slice.slice a l c b l' c' =>
  cases a<;>cases b<;>first|(simp [cellB] at h;done)|skip
  simp only [cellB,Bool.and_eq_true] at h
  rw [Nat.eq_of_beq_eq_true h.1,Nat.eq_of_beq_eq_true h.2]
 all_goals rfl
theorem cellsB_eq:∀ {a b:List Value},cellsB a b=true→a=b
 | [],[],_=>rfl
 | x::r,y::s,h=>by
  simp only [cellsB,Bool.and_eq_true] at h
  rw [cellB_eq h.1,cellsB_eq h.2]
 | [],_::_,h=>by cases h
 | _::_,[],h=>by cases h
def aggD:TypeDesc→Bool
 | .struct _=>true
 | .array _ _=>true
 | _=>false
def fieldsB (P:Program):List Field→List (Nat×Nat×Bool)→Bool
 | [],[]=>true
 | f::r,(o,z,g)::s=>Nat.beq f.offset o&&(match P.info? f.type,P.underlying f.type with
   | some i,some d=>Nat.beq i.size z&&(match aggD d,g with
    | true,true=>true
    | false,false=>Nat.beq z 1
    | _,_=>false)
   | _,_=>false)&&fieldsB P r s
 | _,_=>false
def tyB (P:Program) (t:TypeId) (y:TyI):Bool :=
 match P.info? t,P.underlying t with
 | some i,some d =>
  Nat.beq i.size y.size&&Nat.beq i.bytes y.bytes &&
  (match y.zero with
   | none=>true
   | some zs=>match i.zero with
    | some v=>cellsB v.cells.toList zs&&Nat.beq zs.length y.size
    | none=>false) &&
  (match y.tg with
   | .c g=>Nat.beq y.size 1&&(match g with
    | .I k=>match d with
     | .int k'=>IntKind.same k' k
     | _=>false
    | _ => !aggD d)
   | .m ts=>aggD d&&Nat.beq ts.length y.size
   | .a n=>aggD d&&Nat.beq n y.size
   | .q=>false) &&
  (match y.k with
   | .other=>true
   | .bl=>match d with
    | .bool=>true
    | _=>false
   | .str=>match d with
    | .string=>true
    | _=>false
   | .ptr e=>match d with
    | .pointer e'=>Nat.beq e' e
    | _=>false
   | .ifc=>match d with
    | .interface _=>true
    | _=>false
   | .sl e=>match d with
    | .slice e'=>Nat.beq e' e
    | _=>false
   | .arr n e=>match d with
    | .array n' e'=>Nat.beq n' n&&Nat.beq e' e
    | _=>false
   | .st fs=>match d with
    | .struct fields=>fieldsB P fields.toList fs
    | _=>false)
 | _,_=>false
theorem fieldsB_ok {P:Program} : ∀ {fl:List Field} {fs:List (Nat×Nat×Bool)},fieldsB P fl fs=true→fs.length=fl.length ∧
  ∀(f o z:Nat) (g:Bool),fs[f]? = some (o,z,g)→∃fd i du,fl[f]? = some fd∧fd.offset=o∧P.info? fd.type=some i∧i.size=z ∧
   P.underlying fd.type=some du∧(match du with | .struct _ | .array _ _=>g=true|_=>g=false∧z=1)
 | [],[],_=>⟨rfl,fun f o z g h=>by simp at h⟩
 | [],_::_,h=>by cases h
 | _::_,[],h=>by cases h
 | fd::fl,(o,z,g)::fs,h=>by
  simp only [fieldsB,Bool.and_eq_true] at h
  obtain ⟨⟨h1,h2⟩,h3⟩:=h
  obtain ⟨h4,h5⟩:=fieldsB_ok h3
  refine ⟨by simp [h4],fun f o' z' g' hf => ?_⟩
  cases f with
  | succ f=>exact h5 f o' z' g' (by simpa using hf)
  | zero =>
   simp only [List.getElem?_cons_zero,Option.some.injEq,Prod.mk.injEq] at hf
   obtain ⟨rfl,rfl,rfl⟩:=hf
   cases hi:P.info? fd.type with
   | none=>simp [hi] at h2
   | some i =>
    cases hd:P.underlying fd.type with
    | none=>simp [hi,hd] at h2
    | some d =>
     simp only [hi,hd,Bool.and_eq_true] at h2
     refine ⟨fd,i,d,rfl,Nat.eq_of_beq_eq_true h1,hi,Nat.eq_of_beq_eq_true h2.1,hd,?_⟩
     have h6:=h2.2
     cases g
     ·cases d<;>first|(exact ⟨rfl,Nat.eq_of_beq_eq_true h6⟩)|(simp [aggD] at h6)
     ·cases d<;>first|rfl|(simp [aggD] at h6)
theorem tyB_ok {P:Program} {t:TypeId} {y:TyI} (h:tyB P t y=true):TyOk P t y:=by
 unfold tyB at h
 cases hi:P.info? t with
 | none=>rw [hi] at h;simp at h
 | some i =>
  cases hd:P.underlying t with
  | none=>rw [hi,hd] at h;simp at h
  | some d =>
   rw [hi,hd] at h
   simp only [Bool.and_eq_true] at h
   obtain ⟨⟨⟨⟨h1,h2⟩,h3⟩,h4⟩,h5⟩:=h
   refine ⟨fun g hg => ?_,⟨i,hi,Nat.eq_of_beq_eq_true h1,Nat.eq_of_beq_eq_true h2,fun zs hz => ?_⟩,d,hd,?_,?_⟩
   ·rw [hg] at h4
    simp only [Bool.and_eq_true] at h4
    exact Nat.eq_of_beq_eq_true h4.1
   ·rw [hz] at h3
    cases hv:i.zero with
    | none=>simp [hv] at h3
    | some v =>
     simp only [hv,Bool.and_eq_true] at h3
     exact ⟨v,rfl,by rw [←cellsB_eq h3.1],Nat.eq_of_beq_eq_true h3.2⟩
   ·cases hg:y.tg with
    | c g =>
     rw [hg] at h4
     simp only [Bool.and_eq_true] at h4
     have h6:=h4.2
     cases g with
     | I k =>
      cases d<;>first|(simp at h6;done)|skip
      exact congrArg TypeDesc.int (same_eq h6)
     | _=>cases d<;>first|trivial|(simp [aggD] at h6)
    | m ts =>
     rw [hg] at h4
     simp only [Bool.and_eq_true] at h4
     refine ⟨?_,Nat.eq_of_beq_eq_true h4.2⟩
     have h6:=h4.1
     cases d<;>first|trivial|(simp [aggD] at h6)
    | a n =>
     rw [hg] at h4
     simp only [Bool.and_eq_true] at h4
     refine ⟨?_,Nat.eq_of_beq_eq_true h4.2⟩
     have h6:=h4.1
     cases d<;>first|trivial|(simp [aggD] at h6)
    | q=>rw [hg] at h4;simp at h4
   ·cases hk:y.k<;>rw [hk] at h5
    case other=>trivial
    case bl=>cases d<;>first|rfl|(simp at h5;done)
    case str=>cases d<;>first|rfl|(simp at h5;done)
    case ptr e=>cases d<;>first|(exact congrArg TypeDesc.pointer (Nat.eq_of_beq_eq_true h5))|(simp at h5;done)
    case ifc=>cases d<;>first|exact ⟨_,rfl⟩|(simp at h5;done)
    case sl e=>cases d<;>first|(exact congrArg TypeDesc.slice (Nat.eq_of_beq_eq_true h5))|(simp at h5;done)
    case arr n e =>
     cases d<;>first|(simp at h5;done)|skip
     simp only [Bool.and_eq_true] at h5
     rw [Nat.eq_of_beq_eq_true h5.1,Nat.eq_of_beq_eq_true h5.2]
    case st fs =>
     cases d<;>first|(simp at h5;done)|skip
     rename_i fields
     obtain ⟨h6,h7⟩:=fieldsB_ok h5
     refine ⟨fields,rfl,by simpa using h6,fun f o z g hf => ?_⟩
     obtain ⟨fd,i,du,e1,e2⟩:=h7 f o z g hf
     exact ⟨fd,i,du,by simpa using e1,e2⟩
def Tr.all {α:Type} (p:Nat→α→Bool):Tr α→Bool
 | .e=>true
 | .n l k v r=>l.all p&&(p k v&&r.all p)
theorem Tr.all_get {α:Type} {p:Nat→α→Bool} : ∀ {T:Tr α} {k:Nat} {v:α},T.all p=true→T.get k=some v→p k v=true
 | .e,_,_,_,h=>by cases h
 | .n l k' v' r,k,v,h,hg=>by
  simp only [Tr.all,Bool.and_eq_true] at h
  simp only [Tr.get] at hg
  cases h1:Nat.blt k k' with
  | true=>rw [h1] at hg;exact Tr.all_get h.1 hg
  | false =>
   rw [h1] at hg
   simp only [cond_false] at hg
   cases h2:Nat.blt k' k with
   | true=>rw [h2] at hg;exact Tr.all_get h.2.2 hg
   | false =>
    rw [h2] at hg
    simp only [cond_false,Option.some.injEq] at hg
    have h3:¬k<k':=fun hh=>by have:=Nat.blt_eq.mpr hh;rw [h1] at this;cases this
    have h4:¬k'<k:=fun hh=>by have:=Nat.blt_eq.mpr hh;rw [h2] at this;cases this
    have:k'=k:=by omega
    subst this
    subst hg
    exact h.2.1
theorem good_of {C:Ctx} (h1:C.T.all (tyB C.P)=true) (h2:C.R.all (fun f _=>hasFn C.P f)=true) (h3:C.P.follows .mixedOrders=true):Good C :=
 ⟨fun _ _ h=>tyB_ok (Tr.all_get h1 h),fun _ _ h=>Tr.all_get h2 h,h3⟩
end Go.Sx
namespace Go.Sx
open Go Go.Proofs
set_option maxRecDepth 100000
def z3:List Value := [(.int .i64 (0))]
def z4:List Value := [(.bool false)]
def z5:List Value := [(.int .u8 (0))]
def z22:List Value := [(.slice none 0 0)]
def z24:List Value := [(.slice none 0 0)]
def z74:List Value:=List.replicate 256 (.bool false)
def z79:List Value := [(.int .u32 (0))]
def z80:List Value:=List.replicate 256 (.int .u32 (0))
def z81:List Value := [(.int .u16 (0))]
def z94:List Value:=List.replicate 256 (.int .u32 (0))++(List.replicate 3 (.slice none 0 0)++(List.replicate 2 (.int .i64 (0))++(List.replicate 4 (.int .u8 (0))++([(.int .u16 (0))]++([(.int .i64 (0))]++([(.bool false)]++(List.replicate 2 (.int .u8 (0))++(List.replicate 8 (.slice none 0 0)++([(.pointer none)]++(List.replicate 256 (.int .u8 (0))))))))))))
def z109:List Value := [(.int .i64 (0)),(.int .i64 (0))]
def z113:List Value := [(.int .i64 (0)),(.int .i64 (0)),(.int .i64 (0))]
def z115:List Value := [(.slice none 0 0),(.int .i64 (0))]
def z134:List Value:=List.replicate 256 (.int .u32 (0))++(List.replicate 256 (.int .i16 (0))++([(.slice none 0 0)]++([(.int .i64 (0))]++([(.slice none 0 0)]++(List.replicate 2 (.int .u64 (0))++([(.int .u8 (0))]++([(.int .u64 (0))]++([(.int .u8 (0))]++(List.replicate 5 (.slice none 0 0)++([(.int .i64 (0))]++([(.slice none 0 0)]++([(.int .i64 (0))]++([(.int .u16 (0))]++([(.int .u8 (0))]++(List.replicate 2 (.bool false)++(List.replicate 2 (.int .u8 (0))))))))))))))))))
def z136:List Value:=List.replicate 16 (.int .u32 (0))
def z137:List Value:=List.replicate 64 (.int .u32 (0))
def z140:List Value := [(.int .u16 (0)),(.int .u8 (0))]
def z142:List Value := [(.int .u16 (0))]
def z148:List Value := [(.slice none 0 0),(.int .i64 (0)),(.bool false),(.slice none 0 0)]
def z155:List Value := [(.int .i64 (0)),(.int .i64 (0)),(.int .i64 (0))]
def z162:List Value := [(.string ⟨#[]⟩)]
def z167:List Value:=List.replicate 12 (.int .u8 (0))
def z180:List Value := [(.int .u16 (0)),(.int .u8 (0)),(.int .u8 (0))]
def z185:List Value := [(.int .u16 (0)),(.pointer none),(.slice none 0 0)]
def z196:List Value := [(.int .u64 (0))]
def z202:List Value:=List.replicate 12 (.int .u16 (0))
def z203:List Value:=List.replicate 16 (.int .u16 (0))
def z208:List Value:=List.replicate 257 (.int .i16 (0))
def z210:List Value := [(.int .i32 (0)),(.int .u32 (0))]
def z213:List Value := [(.pointer none),(.slice none 0 0),(.int .u16 (0))]
def z219:List Value := [(.int .u64 (0)),(.int .u8 (0)),(.slice none 0 0)]
def z222:List Value := [(.int .u64 (0)),(.int .u64 (0)),(.int .i64 (0))]
def z229:List Value:=List.replicate 64 (.int .u32 (0))
def z233:List Value:=List.replicate 13 (.int .u32 (0))
def TT:Tr TyI:=(.n (.n (.n (.n (.n (.n (.n .e 3 (⟨.c (.I .i64),.other,1,8,some z3⟩) .e) 4 (⟨.c .B,.bl,1,1,some z4⟩) .e) 5 (⟨.c (.I .u8),.other,1,1,some z5⟩) (.n .e 9 (⟨.c .V,.str,1,16,none⟩) .e)) 21 (⟨.c (.I .i32),.other,1,4,none⟩) (.n (.n (.n .e 22 (⟨.c .S,.sl 5,1,24,some z22⟩) .e) 24 (⟨.c .S,.sl 3,1,24,some z24⟩) .e) 44 (⟨.c .S,.sl 79,1,24,none⟩) (.n .e 49 (⟨.c .S,.sl 22,1,24,none⟩) .e))) 52 (⟨.c .S,.sl 4,1,24,none⟩) (.n (.n (.n (.n .e 66 (⟨.c .P,.ptr 94,1,8,none⟩) .e) 68 (⟨.c .V,.ifc,1,16,none⟩) .e) 72 (⟨.c .V,.other,1,8,none⟩) (.n .e 74 (⟨.a 256,.arr 256 4,256,256,some z74⟩) .e)) 75 (⟨.c (.I .u64),.other,1,8,none⟩) (.n (.n (.n .e 78 (⟨.c (.I .u8),.other,1,1,none⟩) .e) 79 (⟨.c (.I .u32),.other,1,4,some z79⟩) .e) 80 (⟨.a 256,.arr 256 79,256,1024,some z80⟩) (.n .e 81 (⟨.c (.I .u16),.other,1,2,some z81⟩) .e)))) 82 (⟨.c .S,.sl 140,1,24,none⟩) (.n (.n (.n (.n (.n .e 83 (⟨.c .S,.sl 140,1,24,none⟩) .e) 84 (⟨.c .S,.sl 142,1,24,none⟩) .e) 86 (⟨.m [.S],.st [(0,1,false)],1,24,none⟩) (.n .e 87 (⟨.c .S,.sl 196,1,24,none⟩) .e)) 89 (⟨.c .P,.ptr 134,1,8,none⟩) (.n (.n (.n .e 92 (⟨.a 256,.arr 256 5,256,256,none⟩) .e) 94 (⟨.a 535,.st [(0,256,true),(256,1,false),(257,1,false),(258,1,false),(259,1,false),(260,1,false),(261,1,false),(262,1,false),(263,1,false),(264,1,false),(265,1,false),(266,1,false),(267,1,false),(268,1,false),(269,1,false),(270,1,false),(271,1,false),(272,1,true),(273,1,false),(274,4,true),(278,1,false),(279,0,true),(279,256,true)],535,1592,some z94⟩) .e) 99 (⟨.c .S,.sl 24,1,24,none⟩) (.n .e 105 (⟨.c .S,.sl 113,1,24,none⟩) .e))) 108 (⟨.c .P,.ptr 115,1,8,none⟩) (.n (.n (.n (.n .e 109 (⟨.m [(.I .i64),(.I .i64)],.arr 2 3,2,16,some z109⟩) .e) 113 (⟨.m [(.I .i64),(.I .i64),(.I .i64)],.st [(0,1,false),(1,1,false),(2,1,false)],3,24,some z113⟩) .e) 115 (⟨.m [.S,(.I .i64)],.st [(0,1,false),(1,1,false)],2,32,some z115⟩) (.n .e 119 (⟨.c (.I .i16),.other,1,2,none⟩) .e)) 120 (⟨.a 256,.arr 256 119,256,512,none⟩) (.n (.n (.n .e 122 (⟨.m [.S,(.I .i64)],.st [(0,1,false),(1,1,false)],2,32,none⟩) .e) 123 (⟨.c (.I .u64),.other,1,8,none⟩) .e) 125 (⟨.m [.S,(.I .u64),(.I .u64),(.I .u8)],.st [(0,1,false),(1,1,false),(2,1,false),(3,1,false)],4,48,none⟩) (.n .e 127 (⟨.m [(.I .u64),(.I .u8),.S],.st [(0,1,false),(1,1,false),(2,1,false)],3,40,none⟩) .e))))) 128 (⟨.c .S,.sl 81,1,24,none⟩) (.n (.n (.n (.n (.n (.n .e 129 (⟨.c .S,.sl 210,1,24,none⟩) .e) 131 (⟨.m [.S,.S,.S],.st [(0,1,false),(1,1,false),(2,1,false)],3,72,none⟩) .e) 132 (⟨.c .S,.sl 180,1,24,none⟩) (.n .e 134 (⟨.a 534,.st [(0,256,true),(256,256,true),(512,2,true),(514,4,true),(518,3,true),(521,3,true),(524,1,false),(525,1,false),(526,1,false),(527,1,false),(528,1,false),(529,1,false),(530,1,false),(531,1,false),(532,1,false),(533,1,false)],534,1800,some z134⟩) .e)) 136 (⟨.a 16,.arr 16 79,16,64,some z136⟩) (.n (.n (.n .e 137 (⟨.a 64,.arr 4 136,64,256,some z137⟩) .e) 140 (⟨.m [(.I .u16),(.I .u8)],.st [(0,1,false),(1,1,false)],2,4,some z140⟩) .e) 142 (⟨.m [(.I .u16)],.st [(0,1,false)],1,2,some z142⟩) (.n .e 146 (⟨.c .P,.ptr 148,1,8,none⟩) .e))) 148 (⟨.m [.S,(.I .i64),.B,.S],.st [(0,1,false),(1,1,false),(2,1,false),(3,1,false)],4,64,some z148⟩) (.n (.n (.n (.n .e 152 (⟨.c .S,.sl 155,1,24,none⟩) .e) 155 (⟨.m [(.I .i64),(.I .i64),(.I .i64)],.st [(0,1,false),(1,1,false),(2,1,false)],3,24,some z155⟩) .e) 157 (⟨.c .P,.ptr 80,1,8,none⟩) (.n .e 160 (⟨.c .P,.ptr 162,1,8,none⟩) .e)) 162 (⟨.m [.V],.st [(0,1,false)],1,16,some z162⟩) (.n (.n (.n .e 167 (⟨.a 12,.arr 12 5,12,12,some z167⟩) .e) 174 (⟨.c .P,.ptr 122,1,8,none⟩) .e) 178 (⟨.c .S,.sl 119,1,24,none⟩) (.n .e 180 (⟨.m [(.I .u16),(.I .u8),(.I .u8)],.st [(0,1,false),(1,1,false),(2,1,false)],3,4,some z180⟩) .e)))) 181 (⟨.c .P,.ptr 125,1,8,none⟩) (.n (.n (.n (.n (.n .e 185 (⟨.m [(.I .u16),.P,.S],.st [(0,1,false),(1,1,false),(2,1,false)],3,40,some z185⟩) .e) 196 (⟨.c (.I .u64),.other,1,8,some z196⟩) .e) 202 (⟨.a 12,.arr 12 81,12,24,some z202⟩) (.n .e 203 (⟨.a 16,.arr 16 81,16,32,some z203⟩) .e)) 207 (⟨.m [(.I .u32),(.I .u32),(.I .u32),(.I .u32),(.I .u32),(.I .u32),(.I .u32),(.I .u32)],.arr 8 79,8,32,none⟩) (.n (.n (.n .e 208 (⟨.a 257,.arr 257 119,257,514,some z208⟩) .e) 210 (⟨.m [(.I .i32),(.I .u32)],.st [(0,1,false),(1,1,false)],2,8,some z210⟩) .e) 211 (⟨.c .P,.ptr 127,1,8,none⟩) (.n .e 213 (⟨.m [.P,.S,(.I .u16)],.st [(0,1,false),(1,1,false),(2,1,false)],3,40,some z213⟩) .e))) 215 (⟨.c .P,.ptr 131,1,8,none⟩) (.n (.n (.n (.n .e 219 (⟨.m [(.I .u64),(.I .u8),.S],.st [(0,1,false),(1,1,false),(2,1,false)],3,40,some z219⟩) .e) 222 (⟨.m [(.I .u64),(.I .u64),(.I .i64)],.st [(0,1,false),(1,1,false),(2,1,false)],3,24,some z222⟩) .e) 228 (⟨.m [(.I .u32),(.I .u32)],.st [(0,1,false),(1,1,false)],2,8,none⟩) (.n .e 229 (⟨.a 64,.arr 32 228,64,256,some z229⟩) .e)) 230 (⟨.c .S,.sl 228,1,24,none⟩) (.n (.n (.n .e 233 (⟨.a 13,.arr 13 79,13,52,some z233⟩) .e) 234 (⟨.m [],.st [],0,0,none⟩) .e) 238 (⟨.c .P,.ptr 219,1,8,none⟩) (.n .e 240 (⟨.a 32,.arr 32 81,32,64,none⟩) .e))))))
def RR:Tr (List Tg):=(.n (.n (.n (.n (.n (.n (.n (.n .e 3 [.c .B] .e) 4 [.c .B] .e) 5 [.c .B] (.n (.n .e 6 [.c .B] .e) 7 [.c .B] .e)) 8 [.c .B] (.n (.n (.n .e 9 [.c .B] .e) 10 [.c .B] .e) 11 [.c .B] (.n .e 12 [.c .B] .e))) 13 [.c .B] (.n (.n (.n (.n .e 14 [.c .B] .e) 15 [.c .S,.c (.I .i64),.c .B] .e) 16 [.c .S,.c .B] (.n .e 17 [.c .B] .e)) 18 [.c .S] (.n (.n (.n .e 19 [.c .S] .e) 20 [.c .S,.c .B] .e) 21 [.c .B] (.n .e 22 [.c .B] .e)))) 23 [.c .B] (.n (.n (.n (.n (.n .e 24 [.c .S,.c .S,.c .S,.c (.I .i64)] .e) 25 [.c .B] .e) 26 [.c .S,.c .B] (.n .e 27 [.c .B] .e)) 28 [.c (.I .i64)] (.n (.n (.n .e 29 [.c .B] .e) 30 [.c .S] .e) 31 [.c .S,.c .B] (.n .e 32 [.c .B] .e))) 33 [.c .B] (.n (.n (.n (.n .e 34 [.c (.I .i64)] .e) 35 [.c .S,.c .S,.c .S,.c .S] .e) 36 [.c .B] (.n .e 37 [.c .S,.c .S,.c .S,.c (.I .i64)] .e)) 38 [.c .S,.c (.I .i64)] (.n (.n (.n .e 39 [.c .S,.c (.I .i64)] .e) 40 [.c (.I .i64)] .e) 41 [.c .S,.c (.I .i64)] (.n .e 42 [.c .B] .e))))) 43 [.c .S,.c (.I .i64),.c .B] (.n (.n (.n (.n (.n (.n .e 44 [.c (.I .i64)] .e) 45 [.c .P,.c .S,.c .V] .e) 46 [.c .S,.c .V] (.n (.n .e 47 [.c .S] .e) 48 [.c .S,.c .B] .e)) 49 [.c .S,.c (.I .i64),.c .S,.c .B] (.n (.n (.n .e 50 [.c .S,.c .B,.c .V] .e) 51 [.c (.I .i64)] .e) 52 [.c .S,.c .B] (.n .e 53 [.c .S] .e))) 54 [.c .S] (.n (.n (.n (.n .e 55 [] .e) 56 [.c .P,.c .V] .e) 57 [.c .S,.c .B] (.n .e 58 [.c .P,.m [(.I .i64),(.I .i64)],.c .B] .e)) 59 [.c (.I .i64)] (.n (.n (.n .e 60 [.c .S,.c .B] .e) 61 [.c .P,.c .V] .e) 62 [.c .V] (.n .e 63 [.c .S,.c .V] .e)))) 64 [.c (.I .u32)] (.n (.n (.n (.n (.n .e 65 [.c .V] .e) 66 [.c .S,.c .B] .e) 67 [.c (.I .i64)] (.n .e 68 [.c (.I .i64)] .e)) 69 [] (.n (.n (.n .e 70 [.c .S,.c .B,.c .V] .e) 71 [.c .S,.c .B,.c .V] .e) 72 [.c .P,.c .B] (.n .e 73 [.c .S] .e))) 74 [.c .V] (.n (.n (.n (.n .e 75 [.c .S] .e) 76 [.c (.I .i64),.c .B] .e) 77 [.c .P,.c .V] (.n .e 78 [.c .V] .e)) 79 [.c .V] (.n (.n (.n .e 80 [.c .V] .e) 81 [.c (.I .i64)] .e) 82 [.c .S] (.n .e 83 [] .e)))))) 84 [.c .S,.c .V] (.n (.n (.n (.n (.n (.n (.n .e 85 [.c .S,.c .B] .e) 86 [.c .S,.c .B] .e) 87 [.c (.I .i64),.c .B] (.n (.n .e 88 [.c .S,.c .B,.c .V] .e) 89 [.c .S,.c .V] .e)) 90 [.c .S,.c .V] (.n (.n (.n .e 91 [.c .V] .e) 92 [] .e) 93 [.c (.I .i64)] (.n .e 94 [.c (.I .u32)] .e))) 95 [] (.n (.n (.n (.n .e 96 [] .e) 97 [.c (.I .u32)] .e) 98 [.c (.I .u32)] (.n .e 99 [.c .V] .e)) 100 [.c .S] (.n (.n (.n .e 101 [] .e) 102 [] .e) 103 [.c (.I .u8)] (.n .e 104 [.c (.I .u8)] .e)))) 105 [.c .B] (.n (.n (.n (.n (.n .e 106 [.c (.I .u8)] .e) 107 [] .e) 108 [.c .V] (.n .e 109 [.c (.I .i64)] .e)) 110 [] (.n (.n (.n .e 111 [.c .V] .e) 112 [.c .V] .e) 113 [.c .V] (.n .e 114 [.c .V] .e))) 115 [.c .S,.c .B] (.n (.n (.n (.n .e 116 [.c .S] .e) 117 [.c (.I .i64),.c .B] .e) 118 [.c .B] (.n .e 119 [.c (.I .i64)] .e)) 120 [.c .S] (.n (.n (.n .e 121 [] .e) 122 [] .e) 123 [.c (.I .u32)] (.n .e 124 [] .e))))) 125 [] (.n (.n (.n (.n (.n (.n .e 126 [] .e) 127 [.c (.I .u16)] .e) 128 [.c (.I .u8)] (.n .e 129 [.c (.I .u8)] .e)) 130 [.c (.I .u8)] (.n (.n (.n .e 131 [] .e) 132 [.c (.I .u16)] .e) 133 [.c (.I .u16)] (.n .e 134 [.c .B] .e))) 135 [.c (.I .u8)] (.n (.n (.n (.n .e 136 [.c .V] .e) 137 [] .e) 138 [] (.n .e 139 [] .e)) 140 [] (.n (.n (.n .e 141 [] .e) 142 [] .e) 143 [] (.n .e 144 [] .e)))) 145 [.c .B] (.n (.n (.n (.n (.n .e 146 [.c .S] .e) 147 [] .e) 148 [.c .S] (.n .e 149 [.m [(.I .u64),(.I .u64),(.I .i64)]] .e)) 150 [.m [(.I .u64),(.I .u64),(.I .i64)]] (.n (.n (.n .e 151 [.c (.I .u64),.c (.I .u64)] .e) 152 [] .e) 153 [.c (.I .u8)] (.n .e 154 [.c (.I .u64)] .e))) 155 [.c (.I .u64)] (.n (.n (.n (.n .e 156 [] .e) 157 [] .e) 158 [] (.n .e 159 [] .e)) 160 [] (.n (.n (.n .e 161 [] .e) 162 [] .e) 163 [] (.n .e 164 [] .e)))))))
noncomputable def Cx:Ctx:=⟨Tryd.prog,TT,RR⟩
theorem good:Good Cx:=good_of (by kernel_rfl) (by kernel_rfl) (by kernel_rfl)
theorem of_eq {f:FuncId} {fn:Func} {H:Hint} {gs:List Tg} {es:List Ent} {n:Nat} {args:Array Value} {κ:resT gs→PT} {q:PT} {w:World} (hf:Tryd.prog.funcs[f]? = some fn)
  (hok:fnOk fn n=true) (hn:es.length=n) (ha:(es.map Ent.val).toArray=args) (hq:fnE Cx H gs fn es κ=q) (h:q w) :
  Calls Tryd.prog f args w fun e w'=>∃r,e = .returned (resMk gs r)∧κ r w':=by
 subst hn ha
 rw [←hq] at h
 exact fn_calls good hf hok h
end Go.Sx
namespace Go.Sx
open Go Go.IntWalk
abbrev Cells:=Nat→Option Value
structure Blk (w:World) (b:Nat) (f:Cells):Prop where
 cell:∀i,w.cell? ⟨b,i,none⟩=f i
 froz:∀i,w.frozen? ⟨b,i,none⟩=false
 lt:b<w.heap.size
def updC (f:Cells) (o:Nat) (v:Value):Cells:=fun i=>if i=o then some v else f i
theorem add_mk (b o n:Nat):Addr.add ⟨b,o,none⟩ n=⟨b,o+n,none⟩:=by
 unfold Addr.add
 split
 ·subst_vars;rfl
 ·rfl
theorem heap_setCell_ne {w:World} {a:Addr} {v:Value} {b:Nat} (h:b≠a.block):(w.setCell a v).heap[b]? = w.heap[b]? := by
 unfold World.setCell
 simp only [Array.getElem?_modify]
 rw [if_neg (fun e=>h e.symm)]
theorem cell?_of_heap {w w':World} {b:Nat} (h:w'.heap[b]? = w.heap[b]?) (i:Nat) (s:Option Nat):w'.cell? ⟨b,i,s⟩=w.cell? ⟨b,i,s⟩:=by
 unfold World.cell?
 simp only [h]
theorem frozen?_of_heap {w w':World} {b:Nat} (h:w'.heap[b]? = w.heap[b]?) (i:Nat) (s:Option Nat):w'.frozen? ⟨b,i,s⟩=w.frozen? ⟨b,i,s⟩:=by
 unfold World.frozen?
 simp only [h]
structure Fm (w w':World) (S:List Nat):Prop where
 os:w'.os=w.os
 tape:w'.tape=w.tape
 out:w'.output=w.output
 size:w.heap.size≤w'.heap.size
 old:∀b,b<w.heap.size→b∉S→w'.heap[b]? = w.heap[b]?
theorem Fm.refl (w:World) (S:List Nat):Fm w w S:=⟨rfl,rfl,rfl,Nat.le_refl _,fun _ _ _=>rfl⟩
theorem Fm.drew {w w':World} {S:List Nat} (h:Fm w w' S):Fm w w'.drew S:=⟨h.os,h.tape,h.out,h.size,h.old⟩
theorem Fm.alloc {w w':World} {S:List Nat} {o:Obj} (h:Fm w w' S):Fm w (w'.alloc o) S:=by
 refine ⟨h.os,h.tape,h.out,?_,?_⟩
 ·have:=h.size;rw [World.size_alloc];omega
 ·intro b hb hS
  rw [←h.old b hb hS]
  show (w'.heap.push o)[b]? = _
  have:=h.size
  rw [Array.getElem?_push_lt (by omega),Array.getElem?_eq_getElem (by omega)]
theorem Fm.set {w w':World} {S:List Nat} {a:Addr} {v:Value} (h:Fm w w' S) (ha:a.block∈S∨w.heap.size≤a.block):Fm w (w'.setCell a v) S:=by
 refine ⟨h.os,h.tape,h.out,?_,?_⟩
 ·rw [World.size_setCell];exact h.size
 ·intro b hb hS
  rw [←h.old b hb hS]
  apply heap_setCell_ne
  intro e
  subst e
  rcases ha with ha|ha
  ·exact hS ha
  ·omega
theorem Fm.trans {w0 w1 w2:World} {S S':List Nat} (h:Fm w0 w1 S) (h':Fm w1 w2 S') (hs:∀b∈S',b∈S∨w0.heap.size≤b):Fm w0 w2 S:=by
 refine ⟨h'.os.trans h.os,h'.tape.trans h.tape,h'.out.trans h.out,Nat.le_trans h.size h'.size,?_⟩
 intro b hb hS
 have h1:=h.size
 rw [h'.old b (by omega) (fun e=>(hs b e).elim hS (fun e=>by omega)),h.old b hb hS]
theorem Fm.mono {w w':World} {S S':List Nat} (h:Fm w w' S) (hs:∀b∈S,b∈S'∨w.heap.size≤b):Fm w w' S' :=
 ⟨h.os,h.tape,h.out,h.size,fun b hb hS=>h.old b hb (fun e=>(hs b e).elim hS (fun e=>by omega))⟩
theorem Blk.fr {w w':World} {b:Nat} {f:Cells} {S:List Nat} (h:Blk w b f) (h':Fm w w' S) (hS:b∉S):Blk w' b f :=
 ⟨fun i=>(cell?_of_heap (h'.old b h.lt hS) i none).trans (h.cell i),fun i=>(frozen?_of_heap (h'.old b h.lt hS) i none).trans (h.froz i),Nat.lt_of_lt_of_le h.lt h'.size⟩
theorem Blk.drew {w:World} {b:Nat} {f:Cells} (h:Blk w b f):Blk w.drew b f:=⟨h.cell,h.froz,h.lt⟩
theorem Blk.alloc {w:World} {b:Nat} {f:Cells} {o:Obj} (h:Blk w b f):Blk (w.alloc o) b f:=h.fr ((Fm.refl w []).alloc) (by simp)
theorem Blk.other {w:World} {b:Nat} {f:Cells} {a:Addr} {v:Value} (h:Blk w b f) (hb:b≠a.block):Blk (w.setCell a v) b f :=
 h.fr ((Fm.refl w [a.block]).set (.inl (by simp))) (by simpa using hb)
theorem Blk.set {w:World} {b o:Nat} {f:Cells} {v:Value} (h:Blk w b f) (ho:(f o).isSome):Blk (w.setCell ⟨b,o,none⟩ v) b (updC f o v):=by
 refine ⟨?_,?_,?_⟩
 ·intro i
  unfold updC
  split
  ·subst_vars
   obtain ⟨u,hu⟩:=Option.isSome_iff_exists.mp ho
   exact World.cell?_setCell_same _ _ _ ((h.cell _).trans hu)
  ·rename_i hne
   rw [World.cell?_setCell_other _ _ _ _ (by intro e;injection e with _ e2 _;exact hne e2.symm)]
   exact h.cell i
 ·intro i
  rw [World.frozen?_setCell]
  exact h.froz i
 ·rw [World.size_setCell];exact h.lt
theorem Blk.new {w:World} {cs:Array Value} {T:TypeId} : Blk (w.alloc (.cells cs T)) w.heap.size fun i=>cs[i]? := by
 refine ⟨?_,?_,?_⟩
 ·intro i;simp
 ·intro i;simp
 ·rw [World.size_alloc];omega
theorem Blk.congr {w:World} {b:Nat} {f g:Cells} (h:Blk w b f) (e:f=g):Blk w b g:=e▸h
theorem ld_b {w:World} {b o:Nat} {f:Cells} {t:CT} {x:t.ty} {κ:t.ty→PT} (h:Blk w b f) (hx:f o=some (t.mk x)) (hk:κ x w):ld t ⟨b,o,none⟩ κ w:=⟨x,(h.cell o).trans hx,hk⟩
theorem canSt_b {w:World} {b o:Nat} {f:Cells} (h:Blk w b f) (hx:(f o).isSome):canSt w ⟨b,o,none⟩:=by
 obtain ⟨u,hu⟩:=Option.isSome_iff_exists.mp hx
 exact ⟨⟨u,(h.cell o).trans hu⟩,h.froz o⟩
theorem st_b {w:World} {b o:Nat} {f:Cells} {v:Value} {κ:PT} (h:Blk w b f) (hx:(f o).isSome) (hv:one v=true) (hk:κ (w.setCell ⟨b,o,none⟩ v)):st ⟨b,o,none⟩ v κ w :=
 ⟨hv,canSt_b h hx,hk⟩
theorem ixS_b {w:World} {sz b o k:Nat} {s:Sl} {i:Int} {κ:Addr→PT} (ha:s.a=some ⟨b,o,none⟩) (hi:i=k) (hk:k<s.l) (h:κ ⟨b,o+k*sz,none⟩ w):ixS sz s i κ w :=
 ⟨_,ha,k,hi,hk,by rw [add_mk];exact h⟩
theorem ixA_b {w:World} {sz n b o k:Nat} {i:Int} {κ:Addr→PT} (hi:i=k) (hk:k<n) (h:κ ⟨b,o+k*sz,none⟩ w):ixA sz n ⟨b,o,none⟩ i κ w :=
 ⟨k,hi,hk,by rw [add_mk];exact h⟩
theorem cnd_d {p:Prop} [Decidable p] {x y:PT} {w:World} (h1:p→x w) (h2:¬p→y w):cnd (decide p) x y w :=
 ⟨fun h=>h1 (of_decide_eq_true h),fun h=>h2 (of_decide_eq_false h)⟩
theorem cnd_nd {p:Prop} [Decidable p] {x y:PT} {w:World} (h1:¬p→x w) (h2:p→y w):cnd (!decide p) x y w :=
 ⟨fun h=>h1 (by simpa using h),fun h=>h2 (by simpa using h)⟩
theorem joinP_id {α:Type} {X:(α→PT)→PT} {Y:α→PT} {w:World} (h:X Y w):joinP X Y w:=⟨Y,fun _ _ h=>h,h⟩
structure Arr (k:IntKind) (w:World) (s:Sl) (l:List Nat):Prop where
 len:s.l=l.length
 cap:s.l≤s.c
 non:s.a=none→l = []
 get:∀b,s.a=some b→∀i (h:i<l.length),w.cell? (b.add i)=some (.int k (l[i]:Nat))
theorem Arr.fr {k:IntKind} {w w':World} {s:Sl} {l:List Nat} {S:List Nat} (h:Arr k w s l) (h':Fm w w' S) (hS:∀a,s.a=some a→l ≠ []→a.block∉S):Arr k w' s l:=by
 refine ⟨h.len,h.cap,h.non,?_⟩
 intro b hb i hi
 have h1:=h.get b hb i hi
 rw [←h1]
 have h2:=World.block_lt_of_cell? _ _ h1
 have h3:(b.add i).block=b.block:=by unfold Addr.add;split<;>rfl
 rw [h3] at h2
 have h4:=h'.old b.block h2 (hS b hb (by intro e;subst e;simp at hi))
 have h5:b.add i=⟨b.block,(b.add i).off,(b.add i).spot⟩:=by rw [←h3]
 rw [h5]
 exact cell?_of_heap h4 _ _
theorem wI8 {x:Int} (h1 : -128≤x) (h2:x<128):IntKind.i8.wrap x=x:=i8_in x ⟨h1,by omega⟩
theorem wI16 {x:Int} (h1 : -32768≤x) (h2:x<32768):IntKind.i16.wrap x=x:=i16_in x ⟨h1,by omega⟩
theorem wI32 {x:Int} (h1 : -2147483648≤x) (h2:x<2147483648):IntKind.i32.wrap x=x:=i32_in x ⟨h1,by omega⟩
theorem wI64 {x:Int} (h1 : -9223372036854775808≤x) (h2:x<9223372036854775808):IntKind.i64.wrap x=x:=i64_in x ⟨h1,by omega⟩
theorem wU8 {x:Int} (h1:0≤x) (h2:x<256):IntKind.u8.wrap x=x:=u8_in x ⟨h1,by omega⟩
theorem wU16 {x:Int} (h1:0≤x) (h2:x<65536):IntKind.u16.wrap x=x:=u16_in x ⟨h1,by omega⟩
theorem wU32 {x:Int} (h1:0≤x) (h2:x<4294967296):IntKind.u32.wrap x=x:=u32_in x ⟨h1,by omega⟩
theorem wU64 {x:Int} (h1:0≤x) (h2:x<18446744073709551616):IntKind.u64.wrap x=x:=u64_in x ⟨h1,by omega⟩
theorem wrap_nat (k:IntKind) (n:Nat) (h:n<2^(k.bits-1)):k.wrap (n:Int)=n:=by
 cases k<;>simp only [IntKind.bits] at h<;>first
  | exact wI8 (by omega) (by omega)|exact wI16 (by omega) (by omega)|exact wI32 (by omega) (by omega)|exact wI64 (by omega) (by omega)
  | exact wU8 (by omega) (by omega)|exact wU16 (by omega) (by omega)|exact wU32 (by omega) (by omega)|exact wU64 (by omega) (by omega)
theorem wrap_u {k:IntKind} (hk:k.signed=false) (n:Nat):k.wrap (n:Int)=(n%2^k.bits:Nat):=by
 unfold IntKind.wrap
 simp only [hk,Bool.false_and,Bool.false_eq_true,if_false]
 norm_cast
end Go.Sx
namespace Go.Sx
open Go
def updL (f:Cells) (o:Nat) (xs:List Value):Cells:=fun i=>if o≤i∧i<o+xs.length then xs[i-o]? else f i
theorem updL_nil (f:Cells) (o:Nat):updL f o []=f:=by
 funext i;unfold updL;rw [if_neg (by simp)]
theorem updL_cons (f:Cells) (o:Nat) (v:Value) (xs:List Value):updL (updC f o v) (o+1) xs=updL f o (v::xs):=by
 funext i;unfold updL updC
 by_cases h1:o+1≤i∧i<o+1+xs.length
 ·rw [if_pos h1,if_pos (by simp;omega)]
  rw [show i-o=(i-(o+1))+1 by omega,List.getElem?_cons_succ]
 ·rw [if_neg h1]
  by_cases h2:i=o
  ·subst h2;rw [if_pos rfl,if_pos (by simp)];simp
  ·rw [if_neg h2,if_neg (by simp;omega)]
theorem setL_off (w:World) (b o i:Nat) (xs:List Value):setL w ⟨b,o,none⟩ i xs=setL w ⟨b,o+i,none⟩ 0 xs:=by
 induction xs generalizing w o i with
 | nil=>rfl
 | cons v r ih =>
  simp only [setL,add_mk,Nat.add_zero]
  rw [ih,ih (o:=o+i),Nat.add_assoc]
theorem Blk.setL {w:World} {b o:Nat} {f:Cells} {xs:List Value} (h:Blk w b f) (ho:∀i,i<xs.length→(f (o+i)).isSome):Blk (setL w ⟨b,o,none⟩ 0 xs) b (updL f o xs):=by
 induction xs generalizing w o f with
 | nil=>rw [updL_nil];exact h
 | cons v r ih =>
  simp only [Go.Sx.setL,add_mk,Nat.add_zero]
  rw [setL_off, ←updL_cons]
  have h1:=h.set (v:=v) (ho 0 (by simp))
  refine ih h1 ?_
  intro i hi
  have:=ho (i+1) (by simpa using hi)
  unfold updC
  split
  ·rfl
  ·rw [show o+1+i=o+(i+1) by omega];exact this
theorem Fm.setL {w w':World} {S:List Nat} {b o:Nat} {xs:List Value} (h:Fm w w' S) (hb:b∈S∨w.heap.size≤b):Fm w (setL w' ⟨b,o,none⟩ 0 xs) S:=by
 induction xs generalizing w' o with
 | nil=>exact h
 | cons v r ih =>
  simp only [Go.Sx.setL,add_mk,Nat.add_zero]
  rw [setL_off]
  exact ih (h.set hb)
structure Vec (sz:Nat) (w:World) (s:Sl) (l:List Value):Prop where
 len:l.length=s.l*sz
 cap:s.l≤s.c
 non:s.a=none→s.c=0
 blk:∀a,s.a=some a→a.off=0∧a.spot=none∧∃f,Blk w a.block f∧(∀i,i<l.length→f i=l[i]?)∧∀i,i<s.c*sz→(f i).isSome
def Sl.bs (s:Sl):List Nat:=match s.a with
 | some a => [a.block]
 | none => []
theorem Vec.nil {sz:Nat} {w:World} : Vec sz w ⟨none,0,0⟩ []:=⟨by simp,Nat.le_refl _,fun _=>rfl,by simp⟩
theorem Vec.fr {sz:Nat} {w w':World} {s:Sl} {l:List Value} {S:List Nat} (h:Vec sz w s l) (h':Fm w w' S) (hS:∀b∈s.bs,b∉S):Vec sz w' s l:=by
 refine ⟨h.len,h.cap,h.non,?_⟩
 intro a ha
 obtain ⟨h1,h2,f,h3,h4,h5⟩:=h.blk a ha
 exact ⟨h1,h2,f,h3.fr h' (hS _ (by unfold Sl.bs;rw [ha];simp)),h4,h5⟩
theorem Vec.lt {sz:Nat} {w:World} {s:Sl} {l:List Value} (h:Vec sz w s l):∀b∈s.bs,b<w.heap.size:=by
 intro b hb
 unfold Sl.bs at hb
 split at hb
 ·rename_i a ha
  obtain ⟨h1,h2,f,h3,h4,h5⟩:=h.blk a ha
  simp at hb;subst hb;exact h3.lt
 ·simp at hb
theorem zrep_size (zs:List Value) (n:Nat):(zrep zs n).size=n*zs.length:=by simp [zrep]
theorem zrep_some (zs:List Value) (n i:Nat) (h:i<n*zs.length):((zrep zs n)[i]?).isSome:=by
 rw [Array.getElem?_eq_getElem (by rw [zrep_size];exact h)];rfl
structure Has (sz:Nat) (w:World) (x:Sl) (xs:List Value):Prop where
 len:xs.length=x.l*sz
 get:∀b,x.a=some b→∀i,i<xs.length→w.cell? (b.add i)=xs[i]?
 non:x.a=none→xs = []
 one:∀v∈xs,one v=true
theorem app_v {zs:List Value} {T:TypeId} {bytes:Nat} {s x:Sl} {κ:Sl→PT} {w:World} {l xs:List Value} (h:Vec zs.length w s l) (hx:Has zs.length w x xs) (hz:0<zs.length) (hb:(s.l+x.l)*bytes≤2^46)
  (hk:∀s' w',Vec zs.length w' s' (l++xs)→Fm w w' s.bs→(∀b∈s'.bs,b∈s.bs∨w.heap.size≤b)→κ s' w'):app zs T bytes s x κ w:=by
 refine ⟨hb,?_,?_⟩
 ·intro hc
  refine ⟨xs,hx.len,hx.get,hx.non,hx.one,?_⟩
  cases ha:s.a with
  | some a =>
   obtain ⟨h1,h2,f,h3,h4,h5⟩:=h.blk a ha
   obtain ⟨ab,ao,asp⟩:=a
   simp only at h1 h2 h3
   subst h1 h2
   simp only [add_mk,Nat.zero_add]
   have hlt:(s.l+x.l)*zs.length≤s.c*zs.length:=Nat.mul_le_mul_right _ hc
   rw [Nat.add_mul] at hlt
   have hxl:=hx.len
   refine ⟨?_,?_⟩
   ·intro i hi
    exact canSt_b h3 (h5 _ (by omega))
   ·have h6:=h3.setL (o:=s.l*zs.length) (xs:=xs) (fun i hi=>h5 _ (by omega))
    refine hk _ _ ⟨?_,?_,?_,?_⟩ ?_ ?_
    ·simp only [List.length_append,h.len,hx.len,Nat.add_mul]
    ·exact hc
    ·intro h;cases h
    ·intro a ha'
     injection ha' with ha'
     subst ha'
     refine ⟨rfl,rfl,_,h6,?_,?_⟩
     ·intro i hi
      have hl:=h.len
      unfold updL
      by_cases hi2:s.l*zs.length≤i
      ·simp only [List.length_append] at hi
       rw [if_pos (by omega),List.getElem?_append_right (by omega),h.len]
      ·rw [if_neg (by omega),h4 i (by omega),List.getElem?_append_left (by omega)]
     ·intro i hi
      unfold updL
      split
      ·rename_i hh
       rw [List.getElem?_eq_getElem (by omega)];rfl
      ·exact h5 i hi
    ·exact (Fm.refl w _).setL (.inl (by unfold Sl.bs;rw [ha];simp))
    ·intro b hb'
     left
     unfold Sl.bs at hb' ⊢
     rw [ha]
     exact hb'
  | none =>
   have h0:=h.non ha
   have h01:=h.cap
   have hx0:x.l=0:=by omega
   have hs0:s.l=0:=by omega
   have hxs:xs = []:=List.length_eq_zero_iff.mp (by rw [hx.len,hx0,Nat.zero_mul])
   have hl:l = []:=List.length_eq_zero_iff.mp (by rw [h.len,hs0,Nat.zero_mul])
   subst hxs hl
   refine hk _ _ ⟨?_,?_,?_,?_⟩ (Fm.refl w _) ?_
   ·simp [hx0,hs0]
   ·exact hc
   ·intro _;exact h0
   ·intro a ha';cases ha'
   ·intro b hb';unfold Sl.bs at hb';simp at hb'
 ·intro hc
  refine ⟨l,xs,h.len,?_,?_,hx.len,hx.get,hx.non,?_⟩
  ·intro b hb' i hi
   obtain ⟨h1,h2,f,h3,h4,h5⟩:=h.blk b hb'
   obtain ⟨ab,ao,asp⟩:=b
   simp only at h1 h2 h3
   subst h1 h2
   rw [add_mk,Nat.zero_add,h3.cell,h4 i hi]
  ·intro ha
   have h0:=h.non ha
   have h01:=h.cap
   exact List.length_eq_zero_iff.mp (by rw [h.len,show s.l=0 by omega,Nat.zero_mul])
  ·intro c hc1 hc2
   have hl:=h.len
   have hxl:=hx.len
   refine hk _ _ ⟨?_,hc1,?_,?_⟩ ?_ ?_
   ·simp only [List.length_append,h.len,hx.len,Nat.add_mul]
   ·intro h;cases h
   ·intro a ha'
    injection ha' with ha'
    subst ha'
    refine ⟨rfl,rfl,_,Blk.new,?_,?_⟩
    ·intro i hi
     rw [Array.getElem?_append_left (by simp only [Array.size_append,List.size_toArray];simp only [List.length_append] at hi;omega)]
     rw [←Array.getElem?_toList];simp
    ·intro i hi
     simp only at hi
     rw [Array.getElem?_eq_getElem (by simp only [Array.size_append,List.size_toArray,zrep_size,Nat.sub_mul,Nat.add_mul];have:=Nat.mul_le_mul_right zs.length hc1;rw [Nat.add_mul] at this;omega)]
     rfl
   ·exact (Fm.refl w _).drew.alloc
   ·intro b hb'
    right
    unfold Sl.bs at hb'
    simp at hb'
    subst hb'
    exact Nat.le_refl _
theorem app_1 {z:Value} {T T':TypeId} {bytes:Nat} {s:Sl} {κ:Sl→PT} {w:World} {l:List Value} {v:Value} (h:Vec 1 w s l) (hv:one v=true) (hb:(s.l+1)*bytes≤2^46)
  (hk:∀s' w',Vec 1 w' s' (l ++ [v])→Fm w w' s.bs→(∀b∈s'.bs,b∈s.bs∨w.heap.size≤b)→κ s' w'):nw [v] T' (fun p=>app [z] T bytes s ⟨some p,1,1⟩ κ) w:=by
 have h0:Fm w (w.alloc (.cells ⟨[v]⟩ T')) []:=(Fm.refl w []).alloc
 refine app_v (zs := [z]) (xs := [v]) (h.fr h0 (by simp)) ⟨rfl,?_,(fun h=>by cases h),by simpa using hv⟩ (by simp) hb ?_
 ·intro b hb' i hi
  injection hb' with hb'
  subst hb'
  have hi:i=0:=by simpa using hi
  subst hi
  simp [add_mk]
 ·intro s' w' h1 h2 h3
  refine hk s' w' h1 ((h0.mono (S':=s.bs) (by simp)).trans h2 (fun b hb => .inl hb)) ?_
  intro b hb'
  rcases h3 b hb' with h4|h4
  ·exact .inl h4
  ·right;rw [World.size_alloc] at h4;omega
def leN:List Nat→Nat
 | []=>0
 | x::r=>x+256*leN r
def By (l:List Nat):Prop:=∀x∈l,x<256
theorem By.cons {x:Nat} {l:List Nat} (h:By (x::l)):x<256∧By l:=⟨h x (by simp),fun y hy=>h y (by simp [hy])⟩
theorem getD_out {l:List Nat} {i:Nat} (h:l.length≤i):l.getD i 0=0:=by rw [List.getD_eq_getElem?_getD,List.getElem?_eq_none h];rfl
theorem getD_in {l:List Nat} {i:Nat} (h:i<l.length):l.getD i 0=l[i]:=by rw [List.getD_eq_getElem?_getD,List.getElem?_eq_getElem h];rfl
theorem leN_lt:∀ {l:List Nat},By l→leN l<256^l.length
 | [],_=>by simp [leN]
 | x::r,h=>by
  have ⟨h1,h2⟩:=h.cons
  have:=leN_lt h2
  simp only [leN,List.length_cons,Nat.pow_succ]
  omega
theorem leN_get:∀ {l:List Nat} (i:Nat),By l→leN l/256^i%256=l.getD i 0
 | [],i,_=>by simp [leN]
 | x::r,0,h=>by
  have ⟨h1,h2⟩:=h.cons
  simp only [leN,Nat.pow_zero,Nat.div_one,List.getD_cons_zero]
  omega
 | x::r,i+1,h=>by
  have ⟨h1,h2⟩:=h.cons
  simp only [leN,List.getD_cons_succ]
  rw [←leN_get i h2,Nat.pow_succ,Nat.mul_comm (256^i) 256, ←Nat.div_div_eq_div_mul]
  rw [show (x+256*leN r)/256=leN r by omega]
theorem leN_bit {l:List Nat} (n:Nat) (h:By l):leN l/2^n%2=l.getD (n/8) 0/2^(n%8)%2:=by
 rw [←leN_get _ h]
 have e:n=8*(n/8)+n%8:=by omega
 have h8:n%8<8:=Nat.mod_lt _ (by omega)
 generalize n/8=q at *
 generalize n%8=r at *
 subst e
 rw [Nat.pow_add, ←Nat.div_div_eq_div_mul,show (2:Nat)^(8*q)=256^q by rw [Nat.pow_mul]]
 generalize leN l/256^q=y
 have:(256:Nat)=2^r*2^(8-r):=by rw [←Nat.pow_add,show r+(8-r)=8 by omega]
 rw [this,Nat.mod_mul_right_div_self]
 rw [show (2:Nat)^(8-r)=2*2^(7-r) by rw [←Nat.pow_succ',show (7-r).succ=8-r by omega]]
 rw [Nat.mod_mul_right_mod]
theorem leN_append (a b:List Nat):leN (a++b)=leN a+256^a.length*leN b:=by
 induction a with
 | nil=>simp [leN]
 | cons x r ih=>simp only [List.cons_append,leN,ih,List.length_cons,Nat.pow_succ];rw [Nat.mul_add,Nat.mul_comm (256^r.length) 256,Nat.mul_assoc];omega
theorem ofInt_nat (n m:Nat):BitVec.ofInt n (m:Int)=BitVec.ofNat n m:=BitVec.ofInt_natCast n m
theorem andI_nat {k:IntKind} (hk:k.signed=false) (a b:Nat) (ha:a<2^k.bits) (hb:b<2^k.bits):andI k a b=((a &&& b:Nat):Int):=by
 unfold andI
 rw [ofInt_nat,ofInt_nat,BitVec.toNat_and,BitVec.toNat_ofNat,BitVec.toNat_ofNat,Nat.mod_eq_of_lt ha,Nat.mod_eq_of_lt hb,wrap_u hk]
 rw [Nat.mod_eq_of_lt (Nat.lt_of_le_of_lt Nat.and_le_left ha)]
theorem orI_nat {k:IntKind} (hk:k.signed=false) (a b:Nat) (ha:a<2^k.bits) (hb:b<2^k.bits):orI k a b=((a ||| b:Nat):Int):=by
 unfold orI
 rw [ofInt_nat,ofInt_nat,BitVec.toNat_or,BitVec.toNat_ofNat,BitVec.toNat_ofNat,Nat.mod_eq_of_lt ha,Nat.mod_eq_of_lt hb,wrap_u hk]
 rw [Nat.mod_eq_of_lt (Nat.or_lt_two_pow ha hb)]
theorem andI_i64 (a b:Nat) (ha:a<2^63) (hb:b<2^63):andI .i64 a b=((a &&& b:Nat):Int):=by
 unfold andI
 rw [ofInt_nat,ofInt_nat,BitVec.toNat_and,BitVec.toNat_ofNat,BitVec.toNat_ofNat]
 simp only [IntKind.bits]
 rw [Nat.mod_eq_of_lt (by omega),Nat.mod_eq_of_lt (by omega)]
 exact wrap_nat .i64 _ (Nat.lt_of_le_of_lt Nat.and_le_left ha)
theorem shrI_nat (k:IntKind) (a b:Nat) (ha:a<2^k.bits):shrI k a b=((a/2^b:Nat):Int):=by
 unfold shrI
 rw [Int.toNat_natCast]
 have e:((2:Int)^(min b k.bits))=((2^(min b k.bits):Nat):Int):=by norm_cast
 rw [e,Int.fdiv_eq_ediv_of_nonneg _ (by exact Int.natCast_nonneg _), ←Int.natCast_ediv]
 by_cases hb:b≤k.bits
 ·rw [Nat.min_eq_left hb]
 ·rw [Nat.min_eq_right (by omega),Nat.div_eq_of_lt ha,Nat.div_eq_of_lt (Nat.lt_of_lt_of_le ha (Nat.pow_le_pow_right (by omega) (by omega)))]
theorem shlI_nat (k:IntKind) (a b:Nat) (hb:b≤k.bits) (h:a*2^b<2^(k.bits-1)):shlI k a b=((a*2^b:Nat):Int):=by
 unfold shlI
 rw [Int.toNat_natCast,Nat.min_eq_left hb]
 have e:((a:Int)*(2:Int)^b)=((a*2^b:Nat):Int):=by norm_cast
 rw [e,wrap_nat k _ h]
theorem shlI_u {k:IntKind} (hk:k.signed=false) (a b:Nat) (hb:b≤k.bits):shlI k a b=((a*2^b%2^k.bits:Nat):Int):=by
 unfold shlI
 rw [Int.toNat_natCast,Nat.min_eq_left hb]
 have e:((a:Int)*(2:Int)^b)=((a*2^b:Nat):Int):=by norm_cast
 rw [e,wrap_u hk]
theorem quoI_nat (k:IntKind) (a b:Nat) (h:a<2^(k.bits-1)):quoI k a b=((a/b:Nat):Int):=by
 unfold quoI
 rw [show Int.tdiv (a:Int) (b:Int)=((a/b:Nat):Int) from rfl]
 exact wrap_nat k _ (Nat.lt_of_le_of_lt (Nat.div_le_self _ _) h)
end Go.Sx
namespace Go.Sx
open Go Go.Proofs
set_option maxRecDepth 100000
def q4_J0 (K3:Bool→PT) (x17:Bool):PT :=
 K3 x17
def q4_J1 (K3:Bool→PT) (x24:Bool):PT :=
 K3 x24
def q4 (s0:Sl) (s1:Sl) (b2:Bool) (K3:Bool→PT):PT :=
 cnd (decide ((2147483647:Int)<(s0.l:Int))) (K3 true) (cnd (decide ((2147483647:Int)<(s1.l:Int))) (K3 true) (callP Tryd.prog 18 #[(.slice s0.a s0.l s0.c),(.int .i64 (256:Int))] [.c .S] fun (r4:Sl)=>cnd (decide ((r4.l:Int)<(2:Int))) (K3 true) (callP Tryd.prog 19 #[(.slice r4.a r4.l r4.c),(.slice s1.a s1.l s1.c)] [.c .S] fun (r5:Sl)=>callP Tryd.prog 20 #[(.slice r5.a r5.l r5.c),(.bool b2)] [.c .S,.c .B] fun (r6:Sl×Bool)=>callP Tryd.prog 21 #[(.slice r5.a r5.l r5.c)] [.c .B] fun (r7:Bool)=>cnd (!r7) (K3 true) (cnd (!r6.2) (K3 true) (callP Tryd.prog 22 #[(.slice r6.1.a r6.1.l r6.1.c)] [.c .B] fun (r8:Bool)=>cnd (!r8) (K3 true) (cnd b2 (slc 1 r6.1 (some (1:Int)) none none fun (s9:Sl)=>callP Tryd.prog 23 #[(.slice s9.a s9.l s9.c)] [.c .B] fun (r10:Bool)=>cnd (!r10) (K3 true) (callP Tryd.prog 16 #[(.slice r6.1.a r6.1.l r6.1.c)] [.c .S,.c .B] fun (r11:Sl×Bool)=>cnd (!r11.2) (ixS 1 r4 (IntKind.wrap .i64 ((r4.l:Int)-(1:Int))) fun (p12:Addr)=>ld (.I .u8) p12 fun (n13:Int)=>K3 (decide ((128:Int)<n13))) (callP Tryd.prog 15 #[(.slice r11.1.a r11.1.l r11.1.c)] [.c .S,.c (.I .i64),.c .B] fun (r14:Sl×Int×Bool)=>joinP (fun R15=>cnd r14.2.2 (cnd (decide (r14.2.1=(r11.1.l:Int))) (callP Tryd.prog 17 #[(.slice r5.a r5.l r5.c),(.slice r14.1.a r14.1.l r14.1.c)] [.c .B] fun (r16:Bool)=>R15 r16) (R15 false)) (R15 false)) (q4_J0 K3)))) (callP Tryd.prog 16 #[(.slice r6.1.a r6.1.l r6.1.c)] [.c .S,.c .B] fun (r18:Sl×Bool)=>cnd (!r18.2) (ixS 1 r4 (IntKind.wrap .i64 ((r4.l:Int)-(1:Int))) fun (p19:Addr)=>ld (.I .u8) p19 fun (n20:Int)=>K3 (decide ((128:Int)<n20))) (callP Tryd.prog 15 #[(.slice r18.1.a r18.1.l r18.1.c)] [.c .S,.c (.I .i64),.c .B] fun (r21:Sl×Int×Bool)=>joinP (fun R22=>cnd r21.2.2 (cnd (decide (r21.2.1=(r18.1.l:Int))) (callP Tryd.prog 17 #[(.slice r5.a r5.l r5.c),(.slice r21.1.a r21.1.l r21.1.c)] [.c .B] fun (r23:Bool)=>R22 r23) (R22 false)) (R22 false)) (q4_J1 K3)))))))))
def h4:Hint:=⟨(.n (.n .e 2047 ([(6,.c .B)],[]) .e) 2047 ([(6,.c .B)],[]) .e),.e⟩
theorem q4_eq (s0:Sl) (s1:Sl) (b2:Bool) (K3:Bool→PT):fnE Cx h4 [.c .B] Tryd.f4 [.v (.slice s0.a s0.l s0.c),.v (.slice s1.a s1.l s1.c),.v (.bool b2)] K3=q4 s0 s1 b2 K3:=by kernel_rfl
theorem q4_fnok:fnOk Tryd.f4 3=true:=by kernel_rfl
theorem q4_ok (s0:Sl) (s1:Sl) (b2:Bool) (K3:Bool→PT) {w:World} (h:q4 s0 s1 b2 K3 w):Calls Tryd.prog 4 #[(.slice s0.a s0.l s0.c),(.slice s1.a s1.l s1.c),(.bool b2)] w fun e w'=>∃r,e = .returned (resMk [.c .B] r)∧K3 r w' :=
 of_eq Tryd.func4 q4_fnok (by kernel_rfl) (by kernel_rfl) (q4_eq s0 s1 b2 K3) h
def q15_J0 (x4:(Int×Int×Int)) (A5:(Int×Int×Int)→PT) (x9:Int×Int):PT :=
 A5 (x9.1,x9.2,(IntKind.wrap .i64 (x4.2.2+(1:Int))))
def q15_L1 (K1:(Sl×Int×Bool)→PT) (r2:Sl×Int×Bool) (R3:Int×Int→PT) (x4:Int×Int×Int) (A5:(Int×Int×Int)→PT):PT :=
 cnd (decide (x4.2.2<(r2.1.l:Int))) (joinP (fun R6=>ixS 1 r2.1 x4.2.2 fun (p7:Addr)=>ld (.I .i64) p7 fun (n8:Int)=>cnd (decide ((12:Int)<n8)) (K1 (⟨none,0,0⟩,(0:Int),false)) (cnd (decide ((0:Int)<n8)) (req (0≤(IntKind.wrap .i64 (n8-(1:Int))))<|R6 (x4.1,(IntKind.wrap .i64 (x4.2.1+(shlI .i64 (1:Int) (IntKind.wrap .i64 (n8-(1:Int)))))))) (R6 (x4.1,x4.2.1)))) (q15_J0 x4 A5)) (R3 (x4.1,x4.2.1))
def q15_J2 (x18:(Int×Int)) (A19:(Int×Int)→PT) (x24:Int):PT :=
 A19 (x24,(IntKind.wrap .i64 (x18.2+(1:Int))))
def q15_L3 (r11:Int) (s15:Sl) (s16:Sl) (R17:Int→PT) (x18:Int×Int) (A19:(Int×Int)→PT):PT :=
 cnd (decide (x18.2<(s15.l:Int))) (joinP (fun R20=>ixS 1 s15 x18.2 fun (p21:Addr)=>ld (.I .i64) p21 fun (n22:Int)=>cnd (decide ((0:Int)<n22)) (ixS 1 s16 x18.2 fun (p23:Addr)=>st p23 (.int .i64 (IntKind.wrap .i64 ((IntKind.wrap .i64 ((IntKind.wrap .i64 (r11+(1:Int)))+(1:Int)))-n22)))<|R20 (IntKind.wrap .i64 (x18.1+(1:Int)))) (R20 x18.1)) (q15_J2 x18 A19)) (R17 x18.1)
def q15_J4 (K1:(Sl×Int×Bool)→PT) (x10:(Int×Int)) (s16:Sl) (x25:Int):PT :=
 K1 (s16,x10.1,(decide ((1:Int)<x25)))
def q15_J5 (K1:(Sl×Int×Bool)→PT) (r2:Sl×Int×Bool) (x10:Int×Int):PT :=
 cnd (decide (x10.2=(0:Int))) (K1 (⟨none,0,0⟩,(0:Int),false)) (callP Tryd.prog 44 #[(.int .i64 x10.2)] [.c (.I .i64)] fun (r11:Int)=>req (0≤(IntKind.wrap .i64 (r11+(1:Int))))<|cnd (decide ((11:Int)<(IntKind.wrap .i64 (r11+(1:Int))))) (K1 (⟨none,0,0⟩,(0:Int),false)) (callP Tryd.prog 44 #[(.int .i64 (IntKind.wrap .i64 ((shlI .i64 (1:Int) (IntKind.wrap .i64 (r11+(1:Int))))-x10.2)))] [.c (.I .i64)] fun (r12:Int)=>req (0≤r12)<|cnd (!decide ((IntKind.wrap .i64 ((shlI .i64 (1:Int) (IntKind.wrap .i64 (r11+(1:Int))))-x10.2))=(shlI .i64 (1:Int) r12))) (K1 (⟨none,0,0⟩,(0:Int),false)) (callP Tryd.prog 44 #[(.int .i64 (IntKind.wrap .i64 ((shlI .i64 (1:Int) (IntKind.wrap .i64 (r11+(1:Int))))-x10.2)))] [.c (.I .i64)] fun (r13:Int)=>nw [(.int .i64 (IntKind.wrap .i64 (r13+(1:Int))))] 3 fun (p14:Addr)=>app z3 3 8 r2.1 ⟨(some p14),1,1⟩ fun (s15:Sl)=>mks z3 3 8 (256:Int) (256:Int) fun (s16:Sl)=>joinP (fun R17=>loopP ((0:Int),(0:Int)) (q15_L3 r11 s15 s16 R17)) (q15_J4 K1 x10 s16))))
def q15 (s0:Sl) (K1:(Sl×Int×Bool)→PT):PT :=
 callP Tryd.prog 43 #[(.slice s0.a s0.l s0.c)] [.c .S,.c (.I .i64),.c .B] fun (r2:Sl×Int×Bool)=>cnd (!r2.2.2) (K1 (⟨none,0,0⟩,(0:Int),false)) (cnd (decide ((255:Int)<(r2.1.l:Int))) (K1 (⟨none,0,0⟩,(0:Int),false)) (joinP (fun R3=>loopP (r2.2.1,(0:Int),(0:Int)) (q15_L1 K1 r2 R3)) (q15_J5 K1 r2)))
def h15:Hint:=⟨(.n (.n (.n .e 31 ([(3,.c (.I .i64)),(6,.c (.I .i64))],[5]) .e) 250 ([(3,.c (.I .i64)),(6,.c (.I .i64)),(29,.c (.I .i64))],[27,5,28]) (.n .e 2003 ([(3,.c (.I .i64)),(6,.c (.I .i64))],[29,27,5,28]) .e)) 8191 ([(11,.c (.I .i64))],[2,3]) (.n (.n .e 65530 ([(11,.c (.I .i64)),(70,.c (.I .i64))],[9,2,68,3,69]) .e) 524243 ([(11,.c (.I .i64))],[70,9,2,68,3,69]) .e)),.e⟩
theorem q15_eq (s0:Sl) (K1:(Sl×Int×Bool)→PT):fnE Cx h15 [.c .S,.c (.I .i64),.c .B] Tryd.f15 [.v (.slice s0.a s0.l s0.c)] K1=q15 s0 K1:=by kernel_rfl
theorem q15_fnok:fnOk Tryd.f15 1=true:=by kernel_rfl
theorem q15_ok (s0:Sl) (K1:(Sl×Int×Bool)→PT) {w:World} (h:q15 s0 K1 w):Calls Tryd.prog 15 #[(.slice s0.a s0.l s0.c)] w fun e w'=>∃r,e = .returned (resMk [.c .S,.c (.I .i64),.c .B] r)∧K1 r w' :=
 of_eq Tryd.func15 q15_fnok (by kernel_rfl) (by kernel_rfl) (q15_eq s0 K1) h
def q16 (s0:Sl) (K1:(Sl×Bool)→PT):PT :=
 callP Tryd.prog 45 #[(.slice s0.a s0.l s0.c),(.pointer (none:Option Addr))] [.c .P,.c .S,.c .V] fun (r2:Option Addr×Sl×Value)=>req (isIf r2.2.2=true)<|cnd (!(isNil r2.2.2)) (K1 (⟨none,0,0⟩,false)) (callP Tryd.prog 46 #[(.pointer r2.1),(.slice none 0 0)] [.c .S,.c .V] fun (r3:Sl×Value)=>req (isIf r3.2=true)<|cnd (!(isNil r3.2)) (K1 (⟨none,0,0⟩,false)) (callP Tryd.prog 47 #[(.slice r3.1.a r3.1.l r3.1.c)] [.c .S] fun (r4:Sl)=>K1 (r4,true)))
def h16:Hint:=⟨.e,.e⟩
theorem q16_eq (s0:Sl) (K1:(Sl×Bool)→PT):fnE Cx h16 [.c .S,.c .B] Tryd.f16 [.v (.slice s0.a s0.l s0.c)] K1=q16 s0 K1:=by kernel_rfl
theorem q16_fnok:fnOk Tryd.f16 1=true:=by kernel_rfl
theorem q16_ok (s0:Sl) (K1:(Sl×Bool)→PT) {w:World} (h:q16 s0 K1 w):Calls Tryd.prog 16 #[(.slice s0.a s0.l s0.c)] w fun e w'=>∃r,e = .returned (resMk [.c .S,.c .B] r)∧K1 r w' :=
 of_eq Tryd.func16 q16_fnok (by kernel_rfl) (by kernel_rfl) (q16_eq s0 K1) h
def q17_L0 (s0:Sl) (s1:Sl) (K2:Bool→PT) (R3:Unit→PT) (x4:Int) (A5:Int→PT):PT :=
 cnd (decide (x4<(s0.l:Int))) (drw<|ixS 1 s0 x4 fun (p6:Addr)=>ld (.I .i64) p6 fun (n7:Int)=>ixS 1 s1 x4 fun (p8:Addr)=>ld (.I .i64) p8 fun (n9:Int)=>cnd (!decide (n7=n9)) (K2 false) (A5 (IntKind.wrap .i64 (x4+(1:Int))))) (R3 ())
def q17_J1 (K2:Bool→PT) (x10:Unit):PT :=
 K2 true
def q17 (s0:Sl) (s1:Sl) (K2:Bool→PT):PT :=
 cnd (!decide ((s0.l:Int)=(s1.l:Int))) (K2 false) (joinP (fun R3=>loopP (0:Int) (q17_L0 s0 s1 K2 R3)) (q17_J1 K2))
def h17:Hint:=⟨(.n (.n .e 7 ([],[]) .e) 58 ([(13,.c (.I .i64))],[1,0,12]) .e),.e⟩
theorem q17_eq (s0:Sl) (s1:Sl) (K2:Bool→PT):fnE Cx h17 [.c .B] Tryd.f17 [.v (.slice s0.a s0.l s0.c),.v (.slice s1.a s1.l s1.c)] K2=q17 s0 s1 K2:=by kernel_rfl
theorem q17_fnok:fnOk Tryd.f17 2=true:=by kernel_rfl
theorem q17_ok (s0:Sl) (s1:Sl) (K2:Bool→PT) {w:World} (h:q17 s0 s1 K2 w):Calls Tryd.prog 17 #[(.slice s0.a s0.l s0.c),(.slice s1.a s1.l s1.c)] w fun e w'=>∃r,e = .returned (resMk [.c .B] r)∧K2 r w' :=
 of_eq Tryd.func17 q17_fnok (by kernel_rfl) (by kernel_rfl) (q17_eq s0 s1 K2) h
def q18_J0 (x5:(Int×Int)) (A6:(Int×Int)→PT) (x13:Int):PT :=
 A6 (x13,(IntKind.wrap .i64 (x5.2+(1:Int))))
def q18_L1 (s0:Sl) (n1:Int) (p3:Addr) (R4:Unit→PT) (x5:Int×Int) (A6:(Int×Int)→PT):PT :=
 cnd (decide (x5.2<(s0.l:Int))) (joinP (fun R7=>ixS 1 s0 x5.2 fun (p8:Addr)=>ld (.I .u8) p8 fun (n9:Int)=>cnd (decide (x5.1<n1)) (ixA 1 256 p3 n9 fun (p10:Addr)=>ld .B p10 fun (b11:Bool)=>cnd (!b11) (ixA 1 256 p3 n9 fun (p12:Addr)=>st p12 (.bool true)<|R7 (IntKind.wrap .i64 (x5.1+(1:Int)))) (R7 x5.1)) (R7 x5.1)) (q18_J0 x5 A6)) (R4 ())
def q18_J2 (x17:(Sl×Int)) (A18:(Sl×Int)→PT) (x23:Sl):PT :=
 A18 (x23,(IntKind.wrap .i64 (x17.2+(1:Int))))
def q18_L3 (R15:Sl→PT) (c16:Array Value) (x17:Sl×Int) (A18:(Sl×Int)→PT):PT :=
 cnd (decide (x17.2<(256:Int))) (joinP (fun R19=>ixV .B c16 256 x17.2 fun (b20:Bool)=>cnd b20 (nw [(.int .u8 (IntKind.wrap .u8 x17.2))] 5 fun (p21:Addr)=>app z5 5 1 x17.1 ⟨(some p21),1,1⟩ fun (s22:Sl)=>R19 s22) (R19 x17.1)) (q18_J2 x17 A18)) (R15 x17.1)
def q18_J4 (K2:Sl→PT) (x24:Sl):PT :=
 K2 x24
def q18_J5 (K2:Sl→PT) (p3:Addr) (x14:Unit):PT :=
 joinP (fun R15=>ldA 256 p3 fun (c16:Array Value)=>loopP (⟨none,0,0⟩,(0:Int)) (q18_L3 R15 c16)) (q18_J4 K2)
def q18 (s0:Sl) (n1:Int) (K2:Sl→PT):PT :=
 nw z74 74 fun (p3:Addr)=>joinP (fun R4=>loopP ((0:Int),(0:Int)) (q18_L1 s0 n1 p3 R4)) (q18_J5 K2 p3)
def h18:Hint:=⟨(.n (.n (.n .e 15 ([],[5]) .e) 63 ([(9,.c .S)],[]) (.n .e 122 ([(6,.c (.I .i64)),(14,.c (.I .i64))],[5,1,12,13]) .e)) 506 ([(9,.c .S),(33,.c (.I .i64))],[32]) (.n (.n .e 979 ([(6,.c (.I .i64))],[14,5,1,12,13]) .e) 4051 ([(9,.c .S)],[33,32]) .e)),.e⟩
theorem q18_eq (s0:Sl) (n1:Int) (K2:Sl→PT):fnE Cx h18 [.c .S] Tryd.f18 [.v (.slice s0.a s0.l s0.c),.v (.int .i64 n1)] K2=q18 s0 n1 K2:=by kernel_rfl
theorem q18_fnok:fnOk Tryd.f18 2=true:=by kernel_rfl
theorem q18_ok (s0:Sl) (n1:Int) (K2:Sl→PT) {w:World} (h:q18 s0 n1 K2 w):Calls Tryd.prog 18 #[(.slice s0.a s0.l s0.c),(.int .i64 n1)] w fun e w'=>∃r,e = .returned (resMk [.c .S] r)∧K2 r w' :=
 of_eq Tryd.func18 q18_fnok (by kernel_rfl) (by kernel_rfl) (q18_eq s0 n1 K2) h
def q19_J0 (x5:(Sl×Int)) (A6:(Sl×Int)→PT) (x15:Sl):PT :=
 A6 (x15,(IntKind.wrap .i64 (x5.2+(1:Int))))
def q19_L1 (s0:Sl) (s3:Sl) (R4:Sl→PT) (x5:Sl×Int) (A6:(Sl×Int)→PT):PT :=
 cnd (decide (x5.2<(s0.l:Int))) (joinP (fun R7=>ixS 1 s0 x5.2 fun (p8:Addr)=>ld (.I .u8) p8 fun (n9:Int)=>ixS 1 s3 n9 fun (p10:Addr)=>ld .B p10 fun (b11:Bool)=>cnd (!b11) (ixS 1 s3 n9 fun (p12:Addr)=>st p12 (.bool true)<|nw [(.int .i64 (IntKind.wrap .i64 n9))] 3 fun (p13:Addr)=>app z3 3 8 x5.1 ⟨(some p13),1,1⟩ fun (s14:Sl)=>R7 s14) (R7 x5.1)) (q19_J0 x5 A6)) (R4 x5.1)
def q19_L2 (x19:(Sl×Int)) (R26:Int→PT) (x27:Int) (A28:Int→PT):PT :=
 ixS 1 x19.1 x27 fun (p29:Addr)=>ld (.I .i64) p29 fun (n30:Int)=>cnd (decide (n30=(11:Int))) (req ((x19.1.l:Int)≠0)<|A28 (Int.tmod (IntKind.wrap .i64 (x27+(1:Int))) (x19.1.l:Int))) (R26 x27)
def q19_J3 (x19:(Sl×Int)) (R21:Sl→PT) (x31:Int):PT :=
 ixS 1 x19.1 x31 fun (p32:Addr)=>ld (.I .i64) p32 fun (n33:Int)=>ixS 1 x19.1 x31 fun (p34:Addr)=>st p34 (.int .i64 (IntKind.wrap .i64 (n33+(1:Int))))<|ixS 1 x19.1 x31 fun (p35:Addr)=>ld (.I .i64) p35 fun (n36:Int)=>nw [(.int .i64 n36)] 3 fun (p37:Addr)=>app z3 3 8 x19.1 ⟨(some p37),1,1⟩ fun (s38:Sl)=>R21 s38
def q19_J4 (x19:(Sl×Int)) (R21:Sl→PT) (x25:Int):PT :=
 joinP (fun R26=>loopP x25 (q19_L2 x19 R26)) (q19_J3 x19 R21)
def q19_J5 (x19:(Sl×Int)) (A20:(Sl×Int)→PT) (x39:Sl):PT :=
 A20 (x39,(IntKind.wrap .i64 (x19.2+(1:Int))))
def q19_L6 (s1:Sl) (x16:(Sl)) (R18:Sl→PT) (x19:Sl×Int) (A20:(Sl×Int)→PT):PT :=
 cnd (decide ((x19.1.l:Int)<(x16.l:Int))) (joinP (fun R21=>joinP (fun R22=>cnd (decide ((0:Int)<(s1.l:Int))) (req ((s1.l:Int)≠0)<|ixS 1 s1 (Int.tmod x19.2 (s1.l:Int)) fun (p23:Addr)=>ld (.I .u8) p23 fun (n24:Int)=>req ((x19.1.l:Int)≠0)<|R22 (Int.tmod (IntKind.wrap .i64 n24) (x19.1.l:Int))) (R22 (0:Int))) (q19_J4 x19 R21)) (q19_J5 x19 A20)) (R18 x19.1)
def q19_L7 (x16:(Sl)) (x40:(Sl)) (s41:Sl) (R42:Unit→PT) (x43:Int) (A44:Int→PT):PT :=
 cnd (decide (x43<(x16.l:Int))) (ixS 1 x16 x43 fun (p45:Addr)=>ld (.I .i64) p45 fun (n46:Int)=>ixS 1 x40 x43 fun (p47:Addr)=>ld (.I .i64) p47 fun (n48:Int)=>ixS 1 s41 n46 fun (p49:Addr)=>st p49 (.int .i64 n48)<|A44 (IntKind.wrap .i64 (x43+(1:Int)))) (R42 ())
def q19_J8 (K2:Sl→PT) (s41:Sl) (x50:Unit):PT :=
 K2 s41
def q19_J9 (K2:Sl→PT) (x16:(Sl)) (x40:Sl):PT :=
 mks z3 3 8 (256:Int) (256:Int) fun (s41:Sl)=>joinP (fun R42=>loopP (0:Int) (q19_L7 x16 x40 s41 R42)) (q19_J8 K2 s41)
def q19_J10 (s1:Sl) (K2:Sl→PT) (x16:Sl):PT :=
 cnd (decide ((x16.l:Int)<(2:Int))) (K2 ⟨none,0,0⟩) (nw [(.int .i64 (1:Int)),(.int .i64 (1:Int))] 3 fun (p17:Addr)=>joinP (fun R18=>loopP (⟨(some p17),2,2⟩,(0:Int)) (q19_L6 s1 x16 R18)) (q19_J9 K2 x16))
def q19 (s0:Sl) (s1:Sl) (K2:Sl→PT):PT :=
 mks z4 4 1 (256:Int) (256:Int) fun (s3:Sl)=>joinP (fun R4=>loopP (⟨none,0,0⟩,(0:Int)) (q19_L1 s0 s3 R4)) (q19_J10 s1 K2)
def h19:Hint:=⟨(.n (.n (.n (.n .e 15 ([(5,.c .S)],[1]) .e) 122 ([(5,.c .S),(18,.c (.I .i64))],[6,16,1,17]) .e) 127 ([(9,.c .S)],[5]) (.n (.n .e 511 ([],[12]) .e) 979 ([(5,.c .S)],[18,6,16,1,17]) .e)) 1018 ([(9,.c .S),(10,.c (.I .i64))],[1,5]) (.n (.n (.n .e 4073 ([(9,.c .S)],[10,1,5]) .e) 4090 ([(87,.c (.I .i64))],[9,12,85,86]) .e) 32585 ([(11,.c (.I .i64))],[9,10,1,5]) (.n (.n .e 65171 ([(11,.c (.I .i64))],[9,10,1,5]) .e) 260684 ([(11,.c (.I .i64))],[9,10,1,5]) .e))),.e⟩
theorem q19_eq (s0:Sl) (s1:Sl) (K2:Sl→PT):fnE Cx h19 [.c .S] Tryd.f19 [.v (.slice s0.a s0.l s0.c),.v (.slice s1.a s1.l s1.c)] K2=q19 s0 s1 K2:=by kernel_rfl
theorem q19_fnok:fnOk Tryd.f19 2=true:=by kernel_rfl
theorem q19_ok (s0:Sl) (s1:Sl) (K2:Sl→PT) {w:World} (h:q19 s0 s1 K2 w):Calls Tryd.prog 19 #[(.slice s0.a s0.l s0.c),(.slice s1.a s1.l s1.c)] w fun e w'=>∃r,e = .returned (resMk [.c .S] r)∧K2 r w' :=
 of_eq Tryd.func19 q19_fnok (by kernel_rfl) (by kernel_rfl) (q19_eq s0 s1 K2) h
def q20_J0 (x5:(Int×Int×Int)) (A6:(Int×Int×Int)→PT) (x10:Int×Int):PT :=
 A6 (x10.1,x10.2,(IntKind.wrap .i64 (x5.2.2+(1:Int))))
def q20_L1 (s0:Sl) (R4:Int×Int→PT) (x5:Int×Int×Int) (A6:(Int×Int×Int)→PT):PT :=
 cnd (decide (x5.2.2<(s0.l:Int))) (joinP (fun R7=>ixS 1 s0 x5.2.2 fun (p8:Addr)=>ld (.I .i64) p8 fun (n9:Int)=>cnd (decide ((0:Int)<n9)) (R7 ((maxI x5.1 n9),x5.2.2)) (R7 ((maxI x5.1 n9),x5.2.1))) (q20_J0 x5 A6)) (R4 (x5.1,x5.2.1))
def q20_J2 (x14:(Int)) (A15:Int→PT) (x22:Unit):PT :=
 A15 (IntKind.wrap .i64 (x14+(1:Int)))
def q20_L3 (s0:Sl) (x11:(Int×Int)) (s12:Sl) (R13:Unit→PT) (x14:Int) (A15:Int→PT):PT :=
 cnd (decide (x14<x11.2)) (joinP (fun R16=>ixS 1 s0 x14 fun (p17:Addr)=>ld (.I .i64) p17 fun (n18:Int)=>cnd (decide ((0:Int)<n18)) (ixS 1 s0 x14 fun (p19:Addr)=>ld (.I .i64) p19 fun (n20:Int)=>ixS 1 s12 x14 fun (p21:Addr)=>st p21 (.int .u8 (IntKind.wrap .u8 (IntKind.wrap .i64 ((IntKind.wrap .i64 (x11.1+(1:Int)))-n20))))<|R16 ()) (R16 ())) (q20_J2 x14 A15)) (R13 ())
def q20_J4 (x27:(Sl×Int)) (A28:(Sl×Int)→PT) (x37:Sl):PT :=
 A28 (x37,(IntKind.wrap .i64 (x27.2+(1:Int))))
def q20_X5 (s12:Sl) (x27:(Sl×Int)) (R29:Sl→PT):PT :=
 ixS 1 s12 x27.2 fun (p30:Addr)=>ld (.I .u8) p30 fun (n31:Int)=>req ((2:Int)≠0)<|cnd (decide ((Int.tmod x27.2 (2:Int))=(0:Int))) (req (0≤(4:Int))<|nw [(.int .u8 (shlI .u8 n31 (4:Int)))] 5 fun (p32:Addr)=>app z5 5 1 x27.1 ⟨(some p32),1,1⟩ fun (s33:Sl)=>R29 s33) (ixS 1 x27.1 (IntKind.wrap .i64 ((x27.1.l:Int)-(1:Int))) fun (p34:Addr)=>ld (.I .u8) p34 fun (n35:Int)=>ixS 1 x27.1 (IntKind.wrap .i64 ((x27.1.l:Int)-(1:Int))) fun (p36:Addr)=>st p36 (.int .u8 (orI .u8 n35 n31))<|R29 x27.1)
def q20_L6 (s12:Sl) (R26:Sl→PT) (x27:Sl×Int) (A28:(Sl×Int)→PT):PT :=
 cnd (decide (x27.2<(s12.l:Int))) (joinP (q20_X5 s12 x27) (q20_J4 x27 A28)) (R26 x27.1)
def q20_J7 (K2:(Sl×Bool)→PT) (x38:Sl):PT :=
 K2 (x38,true)
def q20_J8 (b1:Bool) (K2:(Sl×Bool)→PT) (s12:Sl) (x23:Unit):PT :=
 cnd b1 (callP Tryd.prog 48 #[(.slice s12.a s12.l s12.c)] [.c .S,.c .B] fun (r24:Sl×Bool)=>K2 (r24.1,r24.2)) (cnd (decide ((128:Int)<(s12.l:Int))) (K2 (⟨none,0,0⟩,false)) (nw [(.int .u8 (IntKind.wrap .u8 (IntKind.wrap .i64 ((127:Int)+(s12.l:Int)))))] 5 fun (p25:Addr)=>joinP (fun R26=>loopP (⟨(some p25),1,1⟩,(0:Int)) (q20_L6 s12 R26)) (q20_J7 K2)))
def q20_J9 (s0:Sl) (b1:Bool) (K2:(Sl×Bool)→PT) (x11:Int×Int):PT :=
 mks z5 5 1 x11.2 x11.2 fun (s12:Sl)=>joinP (fun R13=>loopP (0:Int) (q20_L3 s0 x11 s12 R13)) (q20_J8 b1 K2 s12)
def q20 (s0:Sl) (b1:Bool) (K2:(Sl×Bool)→PT):PT :=
 callP Tryd.prog 21 #[(.slice s0.a s0.l s0.c)] [.c .B] fun (r3:Bool)=>cnd (!r3) (K2 (⟨none,0,0⟩,false)) (joinP (fun R4=>loopP ((0:Int),(0:Int),(0:Int)) (q20_L1 s0 R4)) (q20_J9 s0 b1 K2))
def h20:Hint:=⟨(.n (.n (.n (.n .e 15 ([(6,.c (.I .i64)),(7,.c (.I .i64))],[0,1]) .e) 63 ([],[1,10]) .e) 122 ([(6,.c (.I .i64)),(7,.c (.I .i64)),(20,.c (.I .i64))],[18,0,1,19]) (.n .e 506 ([(35,.c (.I .i64))],[0,6,10,1,34]) .e)) 979 ([(6,.c (.I .i64)),(7,.c (.I .i64))],[20,18,0,1,19]) (.n (.n (.n .e 1023 ([(12,.c .S)],[]) .e) 4051 ([],[35,0,6,10,1,34]) .e) 8186 ([(12,.c .S),(70,.c (.I .i64))],[68,69]) (.n .e 65491 ([(12,.c .S)],[70,68,69]) .e))),.e⟩
theorem q20_eq (s0:Sl) (b1:Bool) (K2:(Sl×Bool)→PT):fnE Cx h20 [.c .S,.c .B] Tryd.f20 [.v (.slice s0.a s0.l s0.c),.v (.bool b1)] K2=q20 s0 b1 K2:=by kernel_rfl
theorem q20_fnok:fnOk Tryd.f20 2=true:=by kernel_rfl
theorem q20_ok (s0:Sl) (b1:Bool) (K2:(Sl×Bool)→PT) {w:World} (h:q20 s0 b1 K2 w):Calls Tryd.prog 20 #[(.slice s0.a s0.l s0.c),(.bool b1)] w fun e w'=>∃r,e = .returned (resMk [.c .S,.c .B] r)∧K2 r w' :=
 of_eq Tryd.func20 q20_fnok (by kernel_rfl) (by kernel_rfl) (q20_eq s0 b1 K2) h
def q21_J0 (x3:(Int×Int×Int)) (A4:(Int×Int×Int)→PT) (x8:Int×Int):PT :=
 A4 (x8.1,x8.2,(IntKind.wrap .i64 (x3.2.2+(1:Int))))
def q21_X1 (s0:Sl) (K1:Bool→PT) (x3:(Int×Int×Int)) (R5:(Int×Int)→PT):PT :=
 ixS 1 s0 x3.2.2 fun (p6:Addr)=>ld (.I .i64) p6 fun (n7:Int)=>cnd (decide (n7<(0:Int))) (K1 false) (cnd (decide ((11:Int)<n7)) (K1 false) (cnd (decide ((0:Int)<n7)) (req (0≤(IntKind.wrap .i64 ((11:Int)-n7)))<|R5 ((IntKind.wrap .i64 (x3.1+(shlI .i64 (1:Int) (IntKind.wrap .i64 ((11:Int)-n7))))),(IntKind.wrap .i64 (x3.2.1+(1:Int))))) (R5 (x3.1,x3.2.1))))
def q21_L2 (s0:Sl) (K1:Bool→PT) (R2:Int×Int→PT) (x3:Int×Int×Int) (A4:(Int×Int×Int)→PT):PT :=
 cnd (decide (x3.2.2<(s0.l:Int))) (joinP (q21_X1 s0 K1 x3) (q21_J0 x3 A4)) (R2 (x3.1,x3.2.1))
def q21_J3 (K1:Bool→PT) (x11:Bool):PT :=
 K1 x11
def q21_J4 (K1:Bool→PT) (x9:Int×Int):PT :=
 joinP (fun R10=>cnd (decide ((1:Int)<x9.2)) (R10 (decide (x9.1=(2048:Int)))) (R10 false)) (q21_J3 K1)
def q21 (s0:Sl) (K1:Bool→PT):PT :=
 cnd (decide ((256:Int)<(s0.l:Int))) (K1 false) (joinP (fun R2=>loopP ((0:Int),(0:Int),(0:Int)) (q21_L2 s0 K1 R2)) (q21_J4 K1))
def h21:Hint:=⟨(.n (.n (.n .e 15 ([(3,.c (.I .i64)),(4,.c (.I .i64))],[]) .e) 31 ([(2,.c .B)],[]) .e) 122 ([(3,.c (.I .i64)),(4,.c (.I .i64)),(12,.c (.I .i64))],[10,11]) (.n .e 979 ([(3,.c (.I .i64)),(4,.c (.I .i64))],[12,10,11]) .e)),.e⟩
theorem q21_eq (s0:Sl) (K1:Bool→PT):fnE Cx h21 [.c .B] Tryd.f21 [.v (.slice s0.a s0.l s0.c)] K1=q21 s0 K1:=by kernel_rfl
theorem q21_fnok:fnOk Tryd.f21 1=true:=by kernel_rfl
theorem q21_ok (s0:Sl) (K1:Bool→PT) {w:World} (h:q21 s0 K1 w):Calls Tryd.prog 21 #[(.slice s0.a s0.l s0.c)] w fun e w'=>∃r,e = .returned (resMk [.c .B] r)∧K1 r w' :=
 of_eq Tryd.func21 q21_fnok (by kernel_rfl) (by kernel_rfl) (q21_eq s0 K1) h
def q22_J0 (x4:(Int×Int×Int)) (R6:Int×Int→PT) (n8:Int) (x10:Int):PT :=
 cnd (decide ((0:Int)<n8)) (cnd (decide (n8≤(12:Int))) (req (0≤(IntKind.wrap .i64 (n8-(1:Int))))<|R6 (x10,(IntKind.wrap .i64 (x4.2.1+(shlI .i64 (1:Int) (IntKind.wrap .i64 (n8-(1:Int)))))))) (R6 (x10,x4.2.1))) (R6 (x10,x4.2.1))
def q22_J1 (x4:(Int×Int×Int)) (A5:(Int×Int×Int)→PT) (x11:Int×Int):PT :=
 A5 (x11.1,x11.2,(IntKind.wrap .i64 (x4.2.2+(1:Int))))
def q22_L2 (r2:Sl×Int×Bool) (R3:Int×Int→PT) (x4:Int×Int×Int) (A5:(Int×Int×Int)→PT):PT :=
 cnd (decide (x4.2.2<(r2.1.l:Int))) (joinP (fun R6=>ixS 1 r2.1 x4.2.2 fun (p7:Addr)=>ld (.I .i64) p7 fun (n8:Int)=>joinP (fun R9=>cnd (decide (n8=(1:Int))) (R9 (IntKind.wrap .i64 (x4.1+(1:Int)))) (R9 x4.1)) (q22_J0 x4 R6 n8)) (q22_J1 x4 A5)) (R3 (x4.1,x4.2.1))
def q22_J3 (K1:Bool→PT) (x15:Int):PT :=
 K1 (decide ((1:Int)<x15))
def q22_J4 (K1:Bool→PT) (x12:Int×Int):PT :=
 joinP (fun R13=>cnd (decide ((0:Int)<x12.2)) (callP Tryd.prog 44 #[(.int .i64 x12.2)] [.c (.I .i64)] fun (r14:Int)=>req (0≤(IntKind.wrap .i64 (r14+(1:Int))))<|cnd (decide ((IntKind.wrap .i64 ((shlI .i64 (1:Int) (IntKind.wrap .i64 (r14+(1:Int))))-x12.2))=(1:Int))) (R13 (IntKind.wrap .i64 (x12.1+(1:Int)))) (R13 x12.1)) (R13 x12.1)) (q22_J3 K1)
def q22 (s0:Sl) (K1:Bool→PT):PT :=
 callP Tryd.prog 43 #[(.slice s0.a s0.l s0.c)] [.c .S,.c (.I .i64),.c .B] fun (r2:Sl×Int×Bool)=>cnd (!r2.2.2) (K1 false) (joinP (fun R3=>loopP ((0:Int),(0:Int),(0:Int)) (q22_L2 r2 R3)) (q22_J4 K1))
def h22:Hint:=⟨(.n (.n (.n .e 31 ([(6,.c (.I .i64)),(7,.c (.I .i64))],[]) .e) 63 ([(6,.c (.I .i64))],[]) .e) 250 ([(6,.c (.I .i64)),(7,.c (.I .i64)),(20,.c (.I .i64))],[18,19]) (.n (.n .e 2003 ([(6,.c (.I .i64)),(7,.c (.I .i64))],[20,18,19]) .e) 16025 ([(6,.c (.I .i64))],[7,9,20,18,19]) .e)),.e⟩
theorem q22_eq (s0:Sl) (K1:Bool→PT):fnE Cx h22 [.c .B] Tryd.f22 [.v (.slice s0.a s0.l s0.c)] K1=q22 s0 K1:=by kernel_rfl
theorem q22_fnok:fnOk Tryd.f22 1=true:=by kernel_rfl
theorem q22_ok (s0:Sl) (K1:Bool→PT) {w:World} (h:q22 s0 K1 w):Calls Tryd.prog 22 #[(.slice s0.a s0.l s0.c)] w fun e w'=>∃r,e = .returned (resMk [.c .B] r)∧K1 r w' :=
 of_eq Tryd.func22 q22_fnok (by kernel_rfl) (by kernel_rfl) (q22_eq s0 K1) h
def q23_J0 (x4:(Bool×Int)) (A5:(Bool×Int)→PT) (x9:Bool):PT :=
 A5 (x9,(IntKind.wrap .i64 (x4.2+(1:Int))))
def q23_L1 (r2:Sl×Int×Sl×Bool) (R3:Bool→PT) (x4:Bool×Int) (A5:(Bool×Int)→PT):PT :=
 cnd (decide (x4.2<(r2.1.l:Int))) (joinP (fun R6=>ixS 1 r2.1 x4.2 fun (p7:Addr)=>ld (.I .i64) p7 fun (n8:Int)=>cnd x4.1 (cnd (decide (r2.2.1≤(12:Int))) (req (0≤r2.2.1)<|R6 (decide ((IntKind.wrap .i64 ((2:Int)*n8))<(shlI .i64 (1:Int) r2.2.1)))) (R6 false)) (R6 false)) (q23_J0 x4 A5)) (R3 x4.1)
def q23_J2 (K1:Bool→PT) (x10:Bool):PT :=
 K1 x10
def q23 (s0:Sl) (K1:Bool→PT):PT :=
 callP Tryd.prog 49 #[(.slice s0.a s0.l s0.c)] [.c .S,.c (.I .i64),.c .S,.c .B] fun (r2:Sl×Int×Sl×Bool)=>joinP (fun R3=>loopP (r2.2.2.2,(0:Int)) (q23_L1 r2 R3)) (q23_J2 K1)
def h23:Hint:=⟨(.n (.n .e 7 ([(6,.c .B)],[]) .e) 58 ([(6,.c .B),(18,.c (.I .i64))],[4,16,17]) (.n .e 467 ([(6,.c .B)],[18,4,16,17]) .e)),.e⟩
theorem q23_eq (s0:Sl) (K1:Bool→PT):fnE Cx h23 [.c .B] Tryd.f23 [.v (.slice s0.a s0.l s0.c)] K1=q23 s0 K1:=by kernel_rfl
theorem q23_fnok:fnOk Tryd.f23 1=true:=by kernel_rfl
theorem q23_ok (s0:Sl) (K1:Bool→PT) {w:World} (h:q23 s0 K1 w):Calls Tryd.prog 23 #[(.slice s0.a s0.l s0.c)] w fun e w'=>∃r,e = .returned (resMk [.c .B] r)∧K1 r w' :=
 of_eq Tryd.func23 q23_fnok (by kernel_rfl) (by kernel_rfl) (q23_eq s0 K1) h
def q43_J0 (x6:(Sl×Int)) (A7:(Sl×Int)→PT) (x11:Int):PT :=
 req ((16:Int)≠0)<|nw [(.int .i64 (Int.tmod x11 (16:Int)))] 3 fun (p12:Addr)=>app z3 3 8 x6.1 ⟨(some p12),1,1⟩ fun (s13:Sl)=>A7 (s13,(IntKind.wrap .i64 (x6.2+(1:Int))))
def q43_L1 (s0:Sl) (n3:Int) (R5:Sl→PT) (x6:Sl×Int) (A7:(Sl×Int)→PT):PT :=
 cnd (decide (x6.2<(IntKind.wrap .i64 ((IntKind.wrap .i64 n3)-(127:Int))))) (req ((2:Int)≠0)<|ixS 1 s0 (IntKind.wrap .i64 ((1:Int)+(quoI .i64 x6.2 (2:Int)))) fun (p8:Addr)=>ld (.I .u8) p8 fun (n9:Int)=>joinP (fun R10=>req ((2:Int)≠0)<|cnd (decide ((Int.tmod x6.2 (2:Int))=(0:Int))) (req ((16:Int)≠0)<|R10 (quoI .i64 (IntKind.wrap .i64 n9) (16:Int))) (R10 (IntKind.wrap .i64 n9))) (q43_J0 x6 A7)) (R5 x6.1)
def q43_J2 (K1:(Sl×Int×Bool)→PT) (n3:Int) (x14:Sl):PT :=
 req ((2:Int)≠0)<|K1 (x14,(IntKind.wrap .i64 ((1:Int)+(quoI .i64 (IntKind.wrap .i64 ((IntKind.wrap .i64 ((IntKind.wrap .i64 n3)-(127:Int)))+(1:Int))) (2:Int)))),true)
def q43_L3 (r19:Sl×Bool) (R20:Sl→PT) (x21:Sl×Int) (A22:(Sl×Int)→PT):PT :=
 cnd (decide (x21.2<(r19.1.l:Int))) (ixS 1 r19.1 x21.2 fun (p23:Addr)=>ld (.I .u8) p23 fun (n24:Int)=>nw [(.int .i64 (IntKind.wrap .i64 n24))] 3 fun (p25:Addr)=>app z3 3 8 x21.1 ⟨(some p25),1,1⟩ fun (s26:Sl)=>A22 (s26,(IntKind.wrap .i64 (x21.2+(1:Int))))) (R20 x21.1)
def q43_J4 (K1:(Sl×Int×Bool)→PT) (x15:(Int)) (r19:Sl×Bool) (x27:Sl):PT :=
 K1 (x27,(IntKind.wrap .i64 ((1:Int)+x15)),r19.2)
def q43_J5 (s0:Sl) (K1:(Sl×Int×Bool)→PT) (x15:Int):PT :=
 cnd (decide ((s0.l:Int)<(IntKind.wrap .i64 ((1:Int)+x15)))) (K1 (⟨none,0,0⟩,(0:Int),false)) (slc 1 s0 (some (1:Int)) (some (IntKind.wrap .i64 ((1:Int)+x15))) none fun (s16:Sl)=>callP Tryd.prog 49 #[(.slice s16.a s16.l s16.c)] [.c .S,.c (.I .i64),.c .S,.c .B] fun (r17:Sl×Int×Sl×Bool)=>cnd (!r17.2.2.2) (K1 (⟨none,0,0⟩,(0:Int),false)) (cnd (decide ((6:Int)<r17.2.1)) (K1 (⟨none,0,0⟩,(0:Int),false)) (callP Tryd.prog 57 #[(.slice r17.1.a r17.1.l r17.1.c),(.int .i64 r17.2.1)] [.c .S,.c .B] fun (r18:Sl×Bool)=>cnd (!r18.2) (K1 (⟨none,0,0⟩,(0:Int),false)) (callP Tryd.prog 60 #[(.slice r17.2.2.1.a r17.2.2.1.l r17.2.2.1.c),(.slice r18.1.a r18.1.l r18.1.c),(.int .i64 r17.2.1),(.int .i64 (255:Int))] [.c .S,.c .B] fun (r19:Sl×Bool)=>joinP (fun R20=>loopP (⟨none,0,0⟩,(0:Int)) (q43_L3 r19 R20)) (q43_J4 K1 x15 r19)))))
def q43_X6 (s0:Sl) (K1:(Sl×Int×Bool)→PT) (n3:Int) (R4:Int→PT):PT :=
 cnd (decide ((128:Int)≤(IntKind.wrap .i64 n3))) (req ((2:Int)≠0)<|cnd (decide ((s0.l:Int)<(IntKind.wrap .i64 ((1:Int)+(quoI .i64 (IntKind.wrap .i64 ((IntKind.wrap .i64 ((IntKind.wrap .i64 n3)-(127:Int)))+(1:Int))) (2:Int)))))) (K1 (⟨none,0,0⟩,(0:Int),false)) (joinP (fun R5=>loopP (⟨none,0,0⟩,(0:Int)) (q43_L1 s0 n3 R5)) (q43_J2 K1 n3))) (R4 (IntKind.wrap .i64 n3))
def q43 (s0:Sl) (K1:(Sl×Int×Bool)→PT):PT :=
 cnd (decide ((s0.l:Int)=(0:Int))) (K1 (⟨none,0,0⟩,(0:Int),false)) (ixS 1 s0 (0:Int) fun (p2:Addr)=>ld (.I .u8) p2 fun (n3:Int)=>joinP (q43_X6 s0 K1 n3) (q43_J5 s0 K1))
def h43:Hint:=⟨(.n (.n (.n .e 15 ([(5,.c (.I .i64))],[0]) .e) 983 ([(6,.c .S)],[5]) (.n .e 4095 ([(15,.c .S)],[5,12]) .e)) 7866 ([(6,.c .S),(37,.c (.I .i64))],[0,5,36]) (.n (.n .e 32762 ([(15,.c .S),(101,.c (.I .i64))],[99,5,12,100]) .e) 1006899 ([(8,.c (.I .i64))],[6,37,0,5,36]) .e)),.e⟩
theorem q43_eq (s0:Sl) (K1:(Sl×Int×Bool)→PT):fnE Cx h43 [.c .S,.c (.I .i64),.c .B] Tryd.f43 [.v (.slice s0.a s0.l s0.c)] K1=q43 s0 K1:=by kernel_rfl
theorem q43_fnok:fnOk Tryd.f43 1=true:=by kernel_rfl
theorem q43_ok (s0:Sl) (K1:(Sl×Int×Bool)→PT) {w:World} (h:q43 s0 K1 w):Calls Tryd.prog 43 #[(.slice s0.a s0.l s0.c)] w fun e w'=>∃r,e = .returned (resMk [.c .S,.c (.I .i64),.c .B] r)∧K1 r w' :=
 of_eq Tryd.func43 q43_fnok (by kernel_rfl) (by kernel_rfl) (q43_eq s0 K1) h
def q44_L0 (R2:Int→PT) (x3:Int×Int) (A4:(Int×Int)→PT):PT :=
 cnd (decide ((1:Int)<x3.1)) (req ((2:Int)≠0)<|A4 ((quoI .i64 x3.1 (2:Int)),(IntKind.wrap .i64 (x3.2+(1:Int))))) (R2 x3.2)
def q44_J1 (K1:Int→PT) (x5:Int):PT :=
 K1 x5
def q44 (n0:Int) (K1:Int→PT):PT :=
 joinP (fun R2=>loopP (n0,(0:Int)) (q44_L0 R2)) (q44_J1 K1)
def h44:Hint:=⟨(.n (.n .e 7 ([(3,.c (.I .i64))],[]) .e) 28 ([(0,.c (.I .i64)),(3,.c (.I .i64))],[]) .e),.e⟩
theorem q44_eq (n0:Int) (K1:Int→PT):fnE Cx h44 [.c (.I .i64)] Tryd.f44 [.v (.int .i64 n0)] K1=q44 n0 K1:=by kernel_rfl
theorem q44_fnok:fnOk Tryd.f44 1=true:=by kernel_rfl
theorem q44_ok (n0:Int) (K1:Int→PT) {w:World} (h:q44 n0 K1 w):Calls Tryd.prog 44 #[(.int .i64 n0)] w fun e w'=>∃r,e = .returned (resMk [.c (.I .i64)] r)∧K1 r w' :=
 of_eq Tryd.func44 q44_fnok (by kernel_rfl) (by kernel_rfl) (q44_eq n0 K1) h
def q45_L0 (r3:Option Addr×Value) (n6:Int) (s7:Sl) (R10:Unit→PT) (x11:Int) (A12:Int→PT):PT :=
 cnd (decide (x11<(IntKind.wrap .u8 (n6-(127:Int))))) (req ((2:Int)≠0)<|ixS 1 s7 (quoI .u8 x11 (2:Int)) fun (p13:Addr)=>ld (.I .u8) p13 fun (n14:Int)=>req (0≤(4:Int))<|nz r3.1 fun (p15:Addr)=>ixA 1 256 (Addr.add p15 279) x11 fun (p16:Addr)=>st p16 (.int .u8 (shrI .u8 n14 (4:Int)))<|nz r3.1 fun (p17:Addr)=>ixA 1 256 (Addr.add p17 279) (IntKind.wrap .u8 (x11+(1:Int))) fun (p18:Addr)=>st p18 (.int .u8 (andI .u8 n14 (15:Int)))<|A12 (IntKind.wrap .u8 (x11+(2:Int)))) (R10 ())
def q45_J1 (r3:Option Addr×Value) (n6:Int) (s7:Sl) (R8:Sl→PT) (x19:Unit):PT :=
 nz r3.1 fun (p20:Addr)=>st (Addr.add p20 265) (.int .u16 (IntKind.wrap .u16 (IntKind.wrap .u8 (n6-(127:Int)))))<|slc 1 s7 (some (quoI .u8 (IntKind.wrap .u8 ((IntKind.wrap .u8 (n6-(127:Int)))+(1:Int))) (2:Int))) none none fun (s21:Sl)=>R8 s21
def q45_L2 (p45:Addr) (R50:Int×Sl→PT) (x51:Int×Sl) (A52:(Int×Sl)→PT):PT :=
 cnd (decide ((4:Int)≤(x51.2.l:Int))) (ixS 1 x51.2 (0:Int) fun (p53:Addr)=>ld (.I .u8) p53 fun (n54:Int)=>ixA 16 4 p45 (0:Int) fun (p55:Addr)=>ixA 1 16 p55 (andI .u8 n54 (15:Int)) fun (p56:Addr)=>ld (.I .u32) p56 fun (n57:Int)=>ixA 16 4 p45 (0:Int) fun (p58:Addr)=>ixA 1 16 p58 (andI .u8 n54 (15:Int)) fun (p59:Addr)=>st p59 (.int .u32 (IntKind.wrap .u32 (n57+(1:Int))))<|ixS 1 x51.2 (1:Int) fun (p60:Addr)=>ld (.I .u8) p60 fun (n61:Int)=>ixA 16 4 p45 (1:Int) fun (p62:Addr)=>ixA 1 16 p62 (andI .u8 n61 (15:Int)) fun (p63:Addr)=>ld (.I .u32) p63 fun (n64:Int)=>ixA 16 4 p45 (1:Int) fun (p65:Addr)=>ixA 1 16 p65 (andI .u8 n61 (15:Int)) fun (p66:Addr)=>st p66 (.int .u32 (IntKind.wrap .u32 (n64+(1:Int))))<|ixS 1 x51.2 (2:Int) fun (p67:Addr)=>ld (.I .u8) p67 fun (n68:Int)=>ixA 16 4 p45 (2:Int) fun (p69:Addr)=>ixA 1 16 p69 (andI .u8 n68 (15:Int)) fun (p70:Addr)=>ld (.I .u32) p70 fun (n71:Int)=>ixA 16 4 p45 (2:Int) fun (p72:Addr)=>ixA 1 16 p72 (andI .u8 n68 (15:Int)) fun (p73:Addr)=>st p73 (.int .u32 (IntKind.wrap .u32 (n71+(1:Int))))<|ixS 1 x51.2 (3:Int) fun (p74:Addr)=>ld (.I .u8) p74 fun (n75:Int)=>ixA 16 4 p45 (3:Int) fun (p76:Addr)=>ixA 1 16 p76 (andI .u8 n75 (15:Int)) fun (p77:Addr)=>ld (.I .u32) p77 fun (n78:Int)=>ixA 16 4 p45 (3:Int) fun (p79:Addr)=>ixA 1 16 p79 (andI .u8 n75 (15:Int)) fun (p80:Addr)=>st p80 (.int .u32 (IntKind.wrap .u32 (n78+(1:Int))))<|drw<|ixS 1 x51.2 (0:Int) fun (p81:Addr)=>ld (.I .u8) p81 fun (n82:Int)=>ixS 1 x51.2 (1:Int) fun (p83:Addr)=>ld (.I .u8) p83 fun (n84:Int)=>ixS 1 x51.2 (2:Int) fun (p85:Addr)=>ld (.I .u8) p85 fun (n86:Int)=>ixS 1 x51.2 (3:Int) fun (p87:Addr)=>ld (.I .u8) p87 fun (n88:Int)=>slc 1 x51.2 (some (4:Int)) none none fun (s89:Sl)=>A52 ((orI .u8 x51.1 (orI .u8 (orI .u8 (orI .u8 n82 n84) n86) n88)),s89)) (R50 (x51.1,x51.2))
def q45_L3 (p45:Addr) (x90:(Int×Sl)) (R91:Int→PT) (x92:Int×Int) (A93:(Int×Int)→PT):PT :=
 cnd (decide (x92.2<(x90.2.l:Int))) (ixS 1 x90.2 x92.2 fun (p94:Addr)=>ld (.I .u8) p94 fun (n95:Int)=>ixA 16 4 p45 (0:Int) fun (p96:Addr)=>ixA 1 16 p96 (andI .u8 n95 (15:Int)) fun (p97:Addr)=>ld (.I .u32) p97 fun (n98:Int)=>ixA 16 4 p45 (0:Int) fun (p99:Addr)=>ixA 1 16 p99 (andI .u8 n95 (15:Int)) fun (p100:Addr)=>st p100 (.int .u32 (IntKind.wrap .u32 (n98+(1:Int))))<|A93 ((orI .u8 x92.1 n95),(IntKind.wrap .i64 (x92.2+(1:Int))))) (R91 x92.1)
def q45_L4 (p45:Addr) (p102:Addr) (R103:Unit→PT) (x104:Int) (A105:Int→PT):PT :=
 cnd (decide (x104<(16:Int))) (drw<|ixA 16 4 p45 (0:Int) fun (p106:Addr)=>ixA 1 16 p106 x104 fun (p107:Addr)=>ld (.I .u32) p107 fun (n108:Int)=>ixA 16 4 p45 (1:Int) fun (p109:Addr)=>ixA 1 16 p109 x104 fun (p110:Addr)=>ld (.I .u32) p110 fun (n111:Int)=>ixA 16 4 p45 (2:Int) fun (p112:Addr)=>ixA 1 16 p112 x104 fun (p113:Addr)=>ld (.I .u32) p113 fun (n114:Int)=>ixA 16 4 p45 (3:Int) fun (p115:Addr)=>ixA 1 16 p115 x104 fun (p116:Addr)=>ld (.I .u32) p116 fun (n117:Int)=>ixA 1 16 p102 x104 fun (p118:Addr)=>st p118 (.int .u32 (IntKind.wrap .u32 ((IntKind.wrap .u32 ((IntKind.wrap .u32 (n108+n111))+n114))+n117)))<|A105 (IntKind.wrap .i64 (x104+(1:Int)))) (R103 ())
def q45_L5 (p102:Addr) (R120:Int→PT) (x121:Int×Int) (A122:(Int×Int)→PT):PT :=
 cnd (decide (x121.2<(16:Int))) (ixA 1 16 p102 x121.2 fun (p123:Addr)=>ld (.I .u32) p123 fun (n124:Int)=>req (0≤(IntKind.wrap .i64 (x121.2-(1:Int))))<|A122 ((IntKind.wrap .u32 (x121.1+(shlI .u32 n124 (IntKind.wrap .i64 (x121.2-(1:Int)))))),(IntKind.wrap .i64 (x121.2+(1:Int))))) (R120 x121.1)
def q45_L6 (r3:Option Addr×Value) (p102:Addr) (R159:Unit→PT) (x160:Int×Int) (A161:(Int×Int)→PT):PT :=
 nz r3.1 fun (p162:Addr)=>ld (.I .u8) (Addr.add p162 268) fun (n163:Int)=>cnd (decide (x160.2<(IntKind.wrap .u8 (n163+(1:Int))))) (ixA 1 16 p102 x160.2 fun (p164:Addr)=>ld (.I .u32) p164 fun (n165:Int)=>req (0≤(IntKind.wrap .u8 (x160.2-(1:Int))))<|ixA 1 16 p102 x160.2 fun (p166:Addr)=>st p166 (.int .u32 x160.1)<|A161 ((IntKind.wrap .u32 (x160.1+(shlI .u32 n165 (IntKind.wrap .u8 (x160.2-(1:Int)))))),(IntKind.wrap .u8 (x160.2+(1:Int))))) (R159 ())
def q45_L7 (p200:Addr) (s209:Sl) (R210:Unit→PT) (x211:Int) (A212:Int→PT):PT :=
 cnd (decide (x211<(s209.l:Int))) (slc 1 s209 (some x211) (some (IntKind.wrap .i64 (x211+(4:Int)))) (some (IntKind.wrap .i64 (x211+(4:Int)))) fun (s213:Sl)=>drw<|ldL [(.I .u16)] p200 0 fun (r214:(Int))=>ldL [(.I .u16)] p200 0 fun (r215:(Int))=>ldL [(.I .u16)] p200 0 fun (r216:(Int))=>ldL [(.I .u16)] p200 0 fun (r217:(Int))=>ixS 1 s213 (0:Int) fun (p218:Addr)=>stL p218 0 [(.int .u16 r214)]<|kp [(Addr.add p200 0,(.int .u16 r217)),(Addr.add p200 0,(.int .u16 r216)),(Addr.add p200 0,(.int .u16 r215))]<|ixS 1 s213 (1:Int) fun (p219:Addr)=>stL p219 0 [(.int .u16 r215)]<|kp [(Addr.add p200 0,(.int .u16 r217)),(Addr.add p200 0,(.int .u16 r216))]<|ixS 1 s213 (2:Int) fun (p220:Addr)=>stL p220 0 [(.int .u16 r216)]<|kp [(Addr.add p200 0,(.int .u16 r217))]<|ixS 1 s213 (3:Int) fun (p221:Addr)=>stL p221 0 [(.int .u16 r217)]<|A212 (IntKind.wrap .i64 (x211+(4:Int)))) (R210 ())
def q45_L8 (p200:Addr) (s209:Sl) (R210:Unit→PT) (x222:Int) (A223:Int→PT):PT :=
 cnd (decide (x222<(s209.l:Int))) (ldL [(.I .u16)] p200 0 fun (r224:(Int))=>ixS 1 s209 x222 fun (p225:Addr)=>stL p225 0 [(.int .u16 r224)]<|A223 (IntKind.wrap .i64 (x222+(1:Int)))) (R210 ())
def q45_J9 (R194:Unit→PT) (n196:Int) (p201:Addr) (x226:Unit):PT :=
 ld (.I .u32) p201 fun (n227:Int)=>st p201 (.int .u32 (IntKind.wrap .u32 (n227+(shrI .u32 (shlI .u32 (1:Int) n196) (1:Int)))))<|R194 ()
def q45_J10 (x192:(Int)) (A193:Int→PT) (x228:Unit):PT :=
 A193 (IntKind.wrap .i64 (x192+(1:Int)))
def q45_X11 (r3:Option Addr×Value) (p102:Addr) (s179:Sl) (s191:Sl) (x192:(Int)) (R194:Unit→PT):PT :=
 ixS 1 s191 x192 fun (p195:Addr)=>ld (.I .u8) p195 fun (n196:Int)=>cnd (decide (n196=(0:Int))) (ixS 2 s179 x192 fun (p197:Addr)=>stL p197 0 [(.int .u16 (0:Int)),(.int .u8 (0:Int))]<|R194 ()) (req (0≤n196)<|req (0≤(1:Int))<|nz r3.1 fun (p198:Addr)=>ld (.I .u8) (Addr.add p198 268) fun (n199:Int)=>req (0≤(8:Int))<|nw z142 142 fun (p200:Addr)=>stL p200 0 [(.int .u16 (orI .u16 (IntKind.wrap .u16 (IntKind.wrap .u8 ((IntKind.wrap .u8 (n199+(1:Int)))-n196))) (shlI .u16 (IntKind.wrap .u16 x192) (8:Int))))]<|ixA 1 16 p102 n196 fun (p201:Addr)=>drw<|ld (.I .u32) p201 fun (n202:Int)=>req (0≤(IntKind.wrap .u8 (n196-(1:Int))))<|ld (.I .u16) p200 fun (n203:Int)=>ixS 2 s179 x192 fun (p204:Addr)=>stL p204 0 [(.int .u16 (IntKind.wrap .u16 (shrI .u32 n202 (IntKind.wrap .u8 (n196-(1:Int)))))),(.int .u8 (IntKind.wrap .u8 n203))]<|drw<|nz r3.1 fun (p205:Addr)=>ld .S (Addr.add p205 272) fun (s206:Sl)=>ld (.I .u32) p201 fun (n207:Int)=>ld (.I .u32) p201 fun (n208:Int)=>slc 1 s206 (some n207) (some (IntKind.wrap .u32 (n208+(shrI .u32 (shlI .u32 (1:Int) n196) (1:Int))))) none fun (s209:Sl)=>joinP (fun R210=>cnd (decide ((4:Int)≤(shrI .u32 (shlI .u32 (1:Int) n196) (1:Int)))) (loopP (0:Int) (q45_L7 p200 s209 R210)) (loopP (0:Int) (q45_L8 p200 s209 R210))) (q45_J9 R194 n196 p201))
def q45_L12 (r3:Option Addr×Value) (p102:Addr) (s179:Sl) (R187:Unit→PT) (s191:Sl) (x192:Int) (A193:Int→PT):PT :=
 cnd (decide (x192<(s191.l:Int))) (joinP (q45_X11 r3 p102 s179 s191 x192) (q45_J10 x192 A193)) (R187 ())
def q45_J13 (K2:(Option Addr×Sl×Value)→PT) (r3:Option Addr×Value) (x44:(Sl)) (x229:Unit):PT :=
 K2 (r3.1,x44,.nilIface)
def q45_J14 (K2:(Option Addr×Sl×Value)→PT) (r3:Option Addr×Value) (x44:(Sl)) (p102:Addr) (x178:Sl):PT :=
 slc 2 x178 none (some (256:Int)) none fun (s179:Sl)=>nz r3.1 fun (p180:Addr)=>ld (.I .u16) (Addr.add p180 265) fun (n181:Int)=>slc 2 s179 none (some n181) none fun (s182:Sl)=>nz r3.1 fun (p183:Addr)=>st (Addr.add p183 270) (.slice s182.a s182.l s182.c)<|nz r3.1 fun (p184:Addr)=>ld (.I .u8) (Addr.add p184 268) fun (n185:Int)=>nz r3.1 fun (p186:Addr)=>st (Addr.add p186 269) (.int .u8 n185)<|joinP (fun R187=>drw<|nz r3.1 fun (p188:Addr)=>nz r3.1 fun (p189:Addr)=>ld (.I .u16) (Addr.add p189 265) fun (n190:Int)=>slcA 1 256 (Addr.add p188 279) none (some n190) none fun (s191:Sl)=>loopP (0:Int) (q45_L12 r3 p102 s179 R187 s191)) (q45_J13 K2 r3 x44)
def q45_J15 (K2:(Option Addr×Sl×Value)→PT) (r3:Option Addr×Value) (x44:(Sl)) (p102:Addr) (x173:Unit):PT :=
 nz r3.1 fun (p174:Addr)=>ld .S (Addr.add p174 270) fun (s175:Sl)=>joinP (fun R176=>cnd (decide ((s175.c:Int)<(256:Int))) (mks z140 140 4 (0:Int) (256:Int) fun (s177:Sl)=>R176 s177) (R176 s175)) (q45_J14 K2 r3 x44 p102)
def q45_J16 (K2:(Option Addr×Sl×Value)→PT) (r3:Option Addr×Value) (x44:(Sl)) (p102:Addr) (x167:Unit):PT :=
 joinP (fun R168=>nz r3.1 fun (p169:Addr)=>ld .S (Addr.add p169 272) fun (s170:Sl)=>cnd (!decide ((s170.l:Int)=(2048:Int))) (mks z142 142 2 (2048:Int) (2048:Int) fun (s171:Sl)=>nz r3.1 fun (p172:Addr)=>st (Addr.add p172 272) (.slice s171.a s171.l s171.c)<|R168 ()) (R168 ())) (q45_J15 K2 r3 x44 p102)
def q45_J17 (K2:(Option Addr×Sl×Value)→PT) (r3:Option Addr×Value) (x44:(Sl)) (x101:(Int)) (p102:Addr) (x125:Int):PT :=
 cnd (decide ((15:Int)<x101)) (callP Tryd.prog 62 #[(.string ⟨#[99,111,114,114,117,112,116,32,105,110,112,117,116,58,32,119,101,105,103,104,116,32,116,111,111,32,108,97,114,103,101]⟩)] [.c .V] fun (r126:Value)=>K2 (r3.1,⟨none,0,0⟩,r126)) (ixA 1 16 p102 (12:Int) fun (p127:Addr)=>ld (.I .u32) p127 fun (n128:Int)=>ixA 1 16 p102 (13:Int) fun (p129:Addr)=>ld (.I .u32) p129 fun (n130:Int)=>ixA 1 16 p102 (14:Int) fun (p131:Addr)=>ld (.I .u32) p131 fun (n132:Int)=>ixA 1 16 p102 (15:Int) fun (p133:Addr)=>ld (.I .u32) p133 fun (n134:Int)=>cnd (!decide ((orI .u32 (orI .u32 (orI .u32 n128 n130) n132) n134)=(0:Int))) (callP Tryd.prog 62 #[(.string ⟨#[99,111,114,114,117,112,116,32,105,110,112,117,116,58,32,119,101,105,103,104,116,32,116,111,111,32,108,97,114,103,101]⟩)] [.c .V] fun (r135:Value)=>K2 (r3.1,⟨none,0,0⟩,r135)) (cnd (decide (x125=(0:Int))) (callP Tryd.prog 62 #[(.string ⟨#[99,111,114,114,117,112,116,32,105,110,112,117,116,58,32,119,101,105,103,104,116,115,32,122,101,114,111]⟩)] [.c .V] fun (r136:Value)=>K2 (r3.1,⟨none,0,0⟩,r136)) (callP Tryd.prog 64 #[(.int .u32 x125)] [.c (.I .u32)] fun (r137:Int)=>cnd (decide ((11:Int)<(IntKind.wrap .u32 (r137+(1:Int))))) (callP Tryd.prog 62 #[(.string ⟨#[99,111,114,114,117,112,116,32,105,110,112,117,116,58,32,116,97,98,108,101,76,111,103,32,116,111,111,32,98,105,103]⟩)] [.c .V] fun (r138:Value)=>K2 (r3.1,⟨none,0,0⟩,r138)) (nz r3.1 fun (p139:Addr)=>st (Addr.add p139 268) (.int .u8 (IntKind.wrap .u8 (IntKind.wrap .u32 (r137+(1:Int)))))<|req (0≤(IntKind.wrap .u32 (r137+(1:Int))))<|callP Tryd.prog 64 #[(.int .u32 (IntKind.wrap .u32 ((shlI .u32 (1:Int) (IntKind.wrap .u32 (r137+(1:Int))))-x125)))] [.c (.I .u32)] fun (r140:Int)=>req (0≤r140)<|callP Tryd.prog 64 #[(.int .u32 (IntKind.wrap .u32 ((shlI .u32 (1:Int) (IntKind.wrap .u32 (r137+(1:Int))))-x125)))] [.c (.I .u32)] fun (r141:Int)=>cnd (!decide ((shlI .u32 (1:Int) r140)=(IntKind.wrap .u32 ((shlI .u32 (1:Int) (IntKind.wrap .u32 (r137+(1:Int))))-x125)))) (callP Tryd.prog 62 #[(.string ⟨#[99,111,114,114,117,112,116,32,105,110,112,117,116,58,32,108,97,115,116,32,118,97,108,117,101,32,110,111,116,32,112,111,119,101,114,32,111,102,32,116,119,111]⟩)] [.c .V] fun (r142:Value)=>K2 (r3.1,⟨none,0,0⟩,r142)) (drw<|nz r3.1 fun (p143:Addr)=>ld (.I .u16) (Addr.add p143 265) fun (n144:Int)=>nz r3.1 fun (p145:Addr)=>ixA 1 256 (Addr.add p145 279) n144 fun (p146:Addr)=>st p146 (.int .u8 (IntKind.wrap .u8 (IntKind.wrap .u32 (r141+(1:Int)))))<|nz r3.1 fun (p147:Addr)=>ld (.I .u16) (Addr.add p147 265) fun (n148:Int)=>nz r3.1 fun (p149:Addr)=>st (Addr.add p149 265) (.int .u16 (IntKind.wrap .u16 (n148+(1:Int))))<|ixA 1 16 p102 (IntKind.wrap .u32 (r141+(1:Int))) fun (p150:Addr)=>ld (.I .u32) p150 fun (n151:Int)=>ixA 1 16 p102 (IntKind.wrap .u32 (r141+(1:Int))) fun (p152:Addr)=>st p152 (.int .u32 (IntKind.wrap .u32 (n151+(1:Int))))<|ixA 1 16 p102 (1:Int) fun (p153:Addr)=>ld (.I .u32) p153 fun (n154:Int)=>cnd (decide (n154<(2:Int))) (callP Tryd.prog 62 #[(.string ⟨#[99,111,114,114,117,112,116,32,105,110,112,117,116,58,32,109,105,110,32,101,108,116,32,115,105,122,101,44,32,101,118,101,110,32,99,104,101,99,107,32,102,97,105,108,101,100,32]⟩)] [.c .V] fun (r155:Value)=>K2 (r3.1,⟨none,0,0⟩,r155)) (ixA 1 16 p102 (1:Int) fun (p156:Addr)=>ld (.I .u32) p156 fun (n157:Int)=>cnd (!decide ((andI .u32 n157 (1:Int))=(0:Int))) (callP Tryd.prog 62 #[(.string ⟨#[99,111,114,114,117,112,116,32,105,110,112,117,116,58,32,109,105,110,32,101,108,116,32,115,105,122,101,44,32,101,118,101,110,32,99,104,101,99,107,32,102,97,105,108,101,100,32]⟩)] [.c .V] fun (r158:Value)=>K2 (r3.1,⟨none,0,0⟩,r158)) (joinP (fun R159=>loopP ((0:Int),(1:Int)) (q45_L6 r3 p102 R159)) (q45_J16 K2 r3 x44 p102))))))))
def q45_J18 (K2:(Option Addr×Sl×Value)→PT) (r3:Option Addr×Value) (x44:(Sl)) (x101:(Int)) (p102:Addr) (x119:Unit):PT :=
 joinP (fun R120=>loopP ((0:Int),(1:Int)) (q45_L5 p102 R120)) (q45_J17 K2 r3 x44 x101 p102)
def q45_J19 (K2:(Option Addr×Sl×Value)→PT) (r3:Option Addr×Value) (x44:(Sl)) (p45:Addr) (x101:Int):PT :=
 nw z136 136 fun (p102:Addr)=>joinP (fun R103=>loopP (0:Int) (q45_L4 p45 p102 R103)) (q45_J18 K2 r3 x44 x101 p102)
def q45_J20 (K2:(Option Addr×Sl×Value)→PT) (r3:Option Addr×Value) (x44:(Sl)) (p45:Addr) (x90:Int×Sl):PT :=
 joinP (fun R91=>loopP (x90.1,(0:Int)) (q45_L3 p45 x90 R91)) (q45_J19 K2 r3 x44 p45)
def q45_J21 (K2:(Option Addr×Sl×Value)→PT) (r3:Option Addr×Value) (x44:Sl):PT :=
 nw z137 137 fun (p45:Addr)=>drw<|nz r3.1 fun (p46:Addr)=>nz r3.1 fun (p47:Addr)=>ld (.I .u16) (Addr.add p47 265) fun (n48:Int)=>slcA 1 256 (Addr.add p46 279) none (some n48) none fun (s49:Sl)=>joinP (fun R50=>loopP ((0:Int),s49) (q45_L2 p45 R50)) (q45_J20 K2 r3 x44 p45)
def q45_X22 (K2:(Option Addr×Sl×Value)→PT) (r3:Option Addr×Value) (n6:Int) (s7:Sl) (R8:Sl→PT):PT :=
 cnd (decide ((128:Int)≤n6)) (req ((2:Int)≠0)<|cnd (decide ((s7.l:Int)<(IntKind.wrap .i64 (quoI .u8 (IntKind.wrap .u8 ((IntKind.wrap .u8 (n6-(127:Int)))+(1:Int))) (2:Int))))) (callP Tryd.prog 62 #[(.string ⟨#[105,110,112,117,116,32,116,111,111,32,115,109,97,108,108,32,102,111,114,32,116,97,98,108,101]⟩)] [.c .V] fun (r9:Value)=>K2 (r3.1,⟨none,0,0⟩,r9)) (joinP (fun R10=>loopP (0:Int) (q45_L0 r3 n6 s7 R10)) (q45_J1 r3 n6 s7 R8))) (cnd (decide ((s7.l:Int)<(IntKind.wrap .i64 n6))) (callP Tryd.prog 62 #[(.string ⟨#[105,110,112,117,116,32,116,111,111,32,115,109,97,108,108,32,102,111,114,32,116,97,98,108,101,44,32,119,97,110,116,32,98,121,116,101,115,44,32,104,97,118,101]⟩)] [.c .V] fun (r22:Value)=>K2 (r3.1,⟨none,0,0⟩,r22)) (ixS 1 s7 (0:Int) fun (p23:Addr)=>ld (.I .u8) p23 fun (n24:Int)=>cnd (decide ((6:Int)<(IntKind.wrap .u8 ((andI .u8 n24 (15:Int))+(5:Int))))) (callP Tryd.prog 62 #[(.string ⟨#[99,111,114,114,117,112,116,32,105,110,112,117,116,58,32,119,101,105,103,104,116,115,32,116,97,98,108,101,76,111,103,32,116,111,111,32,98,105,103]⟩)] [.c .V] fun (r25:Value)=>K2 (r3.1,⟨none,0,0⟩,r25)) (nz r3.1 fun (p26:Addr)=>ld .P (Addr.add p26 278) fun (o27:Option Addr)=>nz o27 fun (p28:Addr)=>st (Addr.add p28 527) (.int .i64 (255:Int))<|nz r3.1 fun (p29:Addr)=>slcA 1 256 (Addr.add p29 279) none none none fun (s30:Sl)=>nz r3.1 fun (p31:Addr)=>ld .P (Addr.add p31 278) fun (o32:Option Addr)=>nz o32 fun (p33:Addr)=>st (Addr.add p33 526) (.slice s30.a s30.l s30.c)<|drw<|slc 1 s7 none (some n6) none fun (s34:Sl)=>nz r3.1 fun (p35:Addr)=>ld .P (Addr.add p35 278) fun (o36:Option Addr)=>callP Tryd.prog 63 #[(.slice s34.a s34.l s34.c),(.pointer o36)] [.c .S,.c .V] fun (r37:Sl×Value)=>nz r3.1 fun (p38:Addr)=>ld .P (Addr.add p38 278) fun (o39:Option Addr)=>nz o39 fun (p40:Addr)=>st (Addr.add p40 526) (.slice none 0 0)<|req (isIf r37.2=true)<|cnd (!(isNil r37.2)) (K2 (r3.1,⟨none,0,0⟩,r37.2)) (cnd (decide ((255:Int)<(r37.1.l:Int))) (callP Tryd.prog 62 #[(.string ⟨#[99,111,114,114,117,112,116,32,105,110,112,117,116,58,32,111,117,116,112,117,116,32,116,97,98,108,101,32,116,111,111,32,108,97,114,103,101]⟩)] [.c .V] fun (r41:Value)=>K2 (r3.1,⟨none,0,0⟩,r41)) (nz r3.1 fun (p42:Addr)=>st (Addr.add p42 265) (.int .u16 (IntKind.wrap .u16 (r37.1.l:Int)))<|slc 1 s7 (some n6) none none fun (s43:Sl)=>R8 s43)))))
def q45 (s0:Sl) (o1:Option Addr) (K2:(Option Addr×Sl×Value)→PT):PT :=
 callP Tryd.prog 61 #[(.pointer o1),(.slice none 0 0)] [.c .P,.c .V] fun (r3:Option Addr×Value)=>req (isIf r3.2=true)<|cnd (!(isNil r3.2)) (K2 (r3.1,⟨none,0,0⟩,r3.2)) (cnd (decide ((s0.l:Int)≤(1:Int))) (callP Tryd.prog 62 #[(.string ⟨#[105,110,112,117,116,32,116,111,111,32,115,109,97,108,108,32,102,111,114,32,116,97,98,108,101]⟩)] [.c .V] fun (r4:Value)=>K2 (r3.1,⟨none,0,0⟩,r4)) (ixS 1 s0 (0:Int) fun (p5:Addr)=>ld (.I .u8) p5 fun (n6:Int)=>slc 1 s0 (some (1:Int)) none none fun (s7:Sl)=>joinP (q45_X22 K2 r3 n6 s7) (q45_J21 K2 r3)))
def h45:Hint:=⟨(.n (.n (.n (.n (.n .e 127 ([(0,.c .S)],[1]) .e) 2047 ([(15,.c (.I .u8)),(16,.c .S)],[14,0,1]) .e) 4095 ([(15,.c (.I .u8))],[14,0,1]) (.n (.n .e 8151 ([],[8,0,7,1]) .e) 8188 ([(15,.c (.I .u8)),(16,.c .S)],[14,0,1]) .e)) 32762 ([(15,.c (.I .u8)),(247,.c (.I .i64))],[14,245,0,1,246]) (.n (.n (.n .e 32767 ([],[19,20,15,0,1]) .e) 65210 ([(9,.c (.I .u8))],[1,0,8,7]) .e) 65535 ([(20,.c (.I .u32))],[15,0,19,1]) (.n .e 262138 ([(263,.c (.I .i64))],[19,14,20,15,0,1]) .e))) 524282 ([(20,.c (.I .u32)),(22,.c (.I .i64))],[19,15,0,1]) (.n (.n (.n (.n .e 2097151 ([],[19,1,0]) .e) 8388607 ([],[19,1,0]) .e) 33554422 ([(28,.c (.I .u32)),(29,.c (.I .u8))],[19,1,0]) (.n (.n .e 33554431 ([(32,.c .S)],[19,1,0]) .e) 536870911 ([],[1,0]) .e)) 4294967290 ([(453,.c (.I .i64))],[32,19,1,451,0,452]) (.n (.n (.n .e 34359738323 ([],[453,32,19,1,451,0,452]) .e) 17592186021503 ([],[37,35,453,32,19,1,451,0,452]) .e) 562949952688106 ([(39,.c (.I .i64))],[36,38,37,35,453,32,19,1,451,0,452]) (.n .e 562949952688110 ([(539,.c (.I .i64))],[36,38,37,35,453,32,19,1,451,0,452,538]) .e)))),.e⟩
theorem q45_eq (s0:Sl) (o1:Option Addr) (K2:(Option Addr×Sl×Value)→PT):fnE Cx h45 [.c .P,.c .S,.c .V] Tryd.f45 [.v (.slice s0.a s0.l s0.c),.v (.pointer o1)] K2=q45 s0 o1 K2:=by kernel_rfl
theorem q45_fnok:fnOk Tryd.f45 2=true:=by kernel_rfl
theorem q45_ok (s0:Sl) (o1:Option Addr) (K2:(Option Addr×Sl×Value)→PT) {w:World} (h:q45 s0 o1 K2 w):Calls Tryd.prog 45 #[(.slice s0.a s0.l s0.c),(.pointer o1)] w fun e w'=>∃r,e = .returned (resMk [.c .P,.c .S,.c .V] r)∧K2 r w' :=
 of_eq Tryd.func45 q45_fnok (by kernel_rfl) (by kernel_rfl) (q45_eq s0 o1 K2) h
def q46_J0 (p0:Addr) (s1:Sl) (K2:(Sl×Value)→PT) (n7:Int) (n8:Int) (x13:Sl):PT :=
 ld .S (Addr.add p0 256) fun (s14:Sl)=>slc 1 s14 none (some (0:Int)) none fun (s15:Sl)=>st (Addr.add p0 256) (.slice s15.a s15.l s15.c)<|ld (.I .u8) (Addr.add p0 269) fun (n16:Int)=>st (Addr.add p0 268) (.int .u8 n16)<|ld .S (Addr.add p0 270) fun (s17:Sl)=>st (Addr.add p0 265) (.int .u16 (IntKind.wrap .u16 (s17.l:Int)))<|ld .S (Addr.add p0 270) fun (s18:Sl)=>callP Tryd.prog 65 #[(.slice s18.a s18.l s18.c),(.pointer (some p0))] [.c .V] fun (r19:Value)=>req (isIf r19=true)<|cnd (!(isNil r19)) (st (Addr.add p0 256) (.slice x13.a x13.l x13.c)<|st (Addr.add p0 268) (.int .u8 n7)<|st (Addr.add p0 265) (.int .u16 n8)<|K2 (s1,r19)) (ld .S (Addr.add p0 256) fun (s20:Sl)=>app z5 5 1 s1 s20 fun (s21:Sl)=>st (Addr.add p0 256) (.slice x13.a x13.l x13.c)<|st (Addr.add p0 268) (.int .u8 n7)<|st (Addr.add p0 265) (.int .u16 n8)<|K2 (s21,.nilIface))
def q46 (p0:Addr) (s1:Sl) (K2:(Sl×Value)→PT):PT :=
 cnd (Option.isNone (some p0)) (callP Tryd.prog 62 #[(.string ⟨#[104,117,102,102,48,58,32,65,112,112,101,110,100,84,97,98,108,101,32,119,105,116,104,32,101,109,112,116,121,32,116,97,98,108,101]⟩)] [.c .V] fun (r3:Value)=>K2 (s1,r3)) (ld .S (Addr.add p0 270) fun (s4:Sl)=>cnd (decide ((s4.l:Int)=(0:Int))) (callP Tryd.prog 62 #[(.string ⟨#[104,117,102,102,48,58,32,65,112,112,101,110,100,84,97,98,108,101,32,119,105,116,104,32,101,109,112,116,121,32,116,97,98,108,101]⟩)] [.c .V] fun (r5:Value)=>K2 (s1,r5)) (ld .S (Addr.add p0 256) fun (s6:Sl)=>ld (.I .u8) (Addr.add p0 268) fun (n7:Int)=>ld (.I .u16) (Addr.add p0 265) fun (n8:Int)=>joinP (fun R9=>ld .P (Addr.add p0 278) fun (o10:Option Addr)=>cnd (Option.isNone o10) (callP Tryd.prog 61 #[(.pointer (some p0)),(.slice none 0 0)] [.c .P,.c .V] fun (r11:Option Addr×Value)=>req (isIf r11.2=true)<|cnd (!(isNil r11.2)) (K2 (s1,r11.2)) (ld .S (Addr.add p0 256) fun (s12:Sl)=>R9 s12)) (R9 s6)) (q46_J0 p0 s1 K2 n7 n8)))
def h46:Hint:=⟨(.n .e 63 ([(6,.c .S)],[0,7,8,1]) .e),.e⟩
theorem q46_eq (p0:Addr) (s1:Sl) (K2:(Sl×Value)→PT):fnE Cx h46 [.c .S,.c .V] Tryd.f46 [.pt p0,.v (.slice s1.a s1.l s1.c)] K2=q46 p0 s1 K2:=by kernel_rfl
theorem q46_fnok:fnOk Tryd.f46 2=true:=by kernel_rfl
theorem q46_ok (p0:Addr) (s1:Sl) (K2:(Sl×Value)→PT) {w:World} (h:q46 p0 s1 K2 w):Calls Tryd.prog 46 #[(.pointer (some p0)),(.slice s1.a s1.l s1.c)] w fun e w'=>∃r,e = .returned (resMk [.c .S,.c .V] r)∧K2 r w' :=
 of_eq Tryd.func46 q46_fnok (by kernel_rfl) (by kernel_rfl) (q46_eq p0 s1 K2) h
def q47 (s0:Sl) (K1:Sl→PT):PT :=
 nw [] 5 fun (p2:Addr)=>app z5 5 1 ⟨(some p2),0,0⟩ s0 fun (s3:Sl)=>K1 s3
def h47:Hint:=⟨.e,.e⟩
theorem q47_eq (s0:Sl) (K1:Sl→PT):fnE Cx h47 [.c .S] Tryd.f47 [.v (.slice s0.a s0.l s0.c)] K1=q47 s0 K1:=by kernel_rfl
theorem q47_fnok:fnOk Tryd.f47 1=true:=by kernel_rfl
theorem q47_ok (s0:Sl) (K1:Sl→PT) {w:World} (h:q47 s0 K1 w):Calls Tryd.prog 47 #[(.slice s0.a s0.l s0.c)] w fun e w'=>∃r,e = .returned (resMk [.c .S] r)∧K1 r w' :=
 of_eq Tryd.func47 q47_fnok (by kernel_rfl) (by kernel_rfl) (q47_eq s0 K1) h
def q48_L0 (s0:Sl) (s2:Sl) (R3:Unit→PT) (x4:Int) (A5:Int→PT):PT :=
 cnd (decide (x4<(s0.l:Int))) (ixS 1 s0 x4 fun (p6:Addr)=>ld (.I .u8) p6 fun (n7:Int)=>ixS 1 s2 n7 fun (p8:Addr)=>ld (.I .i64) p8 fun (n9:Int)=>ixS 1 s2 n7 fun (p10:Addr)=>st p10 (.int .i64 (IntKind.wrap .i64 (n9+(1:Int))))<|A5 (IntKind.wrap .i64 (x4+(1:Int)))) (R3 ())
def q48_J1 (s2:Sl) (x13:(Int×Int×Int)) (R15:Int×Int→PT) (x20:Unit):PT :=
 ixS 1 s2 x13.2.2 fun (p21:Addr)=>ld (.I .i64) p21 fun (n22:Int)=>drw<|ixS 1 s2 x13.2.2 fun (p23:Addr)=>ld (.I .i64) p23 fun (n24:Int)=>ixS 1 s2 x13.2.1 fun (p25:Addr)=>ld (.I .i64) p25 fun (n26:Int)=>cnd (decide (n26<n24)) (R15 ((IntKind.wrap .i64 (x13.1-n22)),x13.2.2)) (R15 ((IntKind.wrap .i64 (x13.1-n22)),x13.2.1))
def q48_J2 (x13:(Int×Int×Int)) (A14:(Int×Int×Int)→PT) (x27:Int×Int):PT :=
 A14 (x27.1,x27.2,(IntKind.wrap .i64 (x13.2.2+(1:Int))))
def q48_L3 (s0:Sl) (s2:Sl) (R12:Int×Int→PT) (x13:Int×Int×Int) (A14:(Int×Int×Int)→PT):PT :=
 cnd (decide (x13.2.2<(s2.l:Int))) (joinP (fun R15=>ixS 1 s2 x13.2.2 fun (p16:Addr)=>ld (.I .i64) p16 fun (n17:Int)=>joinP (fun R18=>cnd (decide ((0:Int)<n17)) (req ((s0.l:Int)≠0)<|ixS 1 s2 x13.2.2 fun (p19:Addr)=>st p19 (.int .i64 (maxI (1:Int) (quoI .i64 (IntKind.wrap .i64 (n17*(40:Int))) (s0.l:Int))))<|R18 ()) (R18 ())) (q48_J1 s2 x13 R15)) (q48_J2 x13 A14)) (R12 (x13.1,x13.2.1))
def q48_J4 (s0:Sl) (K1:(Sl×Bool)→PT) (s2:Sl) (x28:Int×Int):PT :=
 ixS 1 s2 x28.2 fun (p29:Addr)=>ld (.I .i64) p29 fun (n30:Int)=>ixS 1 s2 x28.2 fun (p31:Addr)=>st p31 (.int .i64 (IntKind.wrap .i64 (n30+x28.1)))<|ixS 1 s2 x28.2 fun (p32:Addr)=>ld (.I .i64) p32 fun (n33:Int)=>cnd (decide (n33<(1:Int))) (K1 (⟨none,0,0⟩,false)) (ixS 1 s2 x28.2 fun (p34:Addr)=>ld (.I .i64) p34 fun (n35:Int)=>cnd (decide ((63:Int)<n35)) (K1 (⟨none,0,0⟩,false)) (callP Tryd.prog 66 #[(.slice s2.a s2.l s2.c),(.int .i64 (6:Int)),(.slice s0.a s0.l s0.c)] [.c .S,.c .B] fun (r36:Sl×Bool)=>cnd (!r36.2) (K1 (⟨none,0,0⟩,false)) (cnd (decide ((127:Int)<(r36.1.l:Int))) (K1 (⟨none,0,0⟩,false)) (nw [(.int .u8 (IntKind.wrap .u8 (r36.1.l:Int)))] 5 fun (p37:Addr)=>app z5 5 1 ⟨(some p37),1,1⟩ r36.1 fun (s38:Sl)=>K1 (s38,true)))))
def q48_J5 (s0:Sl) (K1:(Sl×Bool)→PT) (s2:Sl) (x11:Unit):PT :=
 joinP (fun R12=>loopP ((64:Int),(0:Int),(0:Int)) (q48_L3 s0 s2 R12)) (q48_J4 s0 K1 s2)
def q48 (s0:Sl) (K1:(Sl×Bool)→PT):PT :=
 mks z3 3 8 (13:Int) (13:Int) fun (s2:Sl)=>joinP (fun R3=>loopP (0:Int) (q48_L0 s0 s2 R3)) (q48_J5 s0 K1 s2)
def h48:Hint:=⟨(.n (.n (.n .e 7 ([],[4,0]) .e) 31 ([(7,.c (.I .i64)),(8,.c (.I .i64))],[0,4]) (.n .e 58 ([(16,.c (.I .i64))],[4,14,0,15]) .e)) 250 ([(7,.c (.I .i64)),(8,.c (.I .i64)),(29,.c (.I .i64))],[4,0,27,28]) (.n (.n .e 2003 ([(7,.c (.I .i64)),(8,.c (.I .i64))],[29,4,0,27,28]) .e) 16025 ([],[7,8,9,29,4,0,27,28]) .e)),.e⟩
theorem q48_eq (s0:Sl) (K1:(Sl×Bool)→PT):fnE Cx h48 [.c .S,.c .B] Tryd.f48 [.v (.slice s0.a s0.l s0.c)] K1=q48 s0 K1:=by kernel_rfl
theorem q48_fnok:fnOk Tryd.f48 1=true:=by kernel_rfl
theorem q48_ok (s0:Sl) (K1:(Sl×Bool)→PT) {w:World} (h:q48 s0 K1 w):Calls Tryd.prog 48 #[(.slice s0.a s0.l s0.c)] w fun e w'=>∃r,e = .returned (resMk [.c .S,.c .B] r)∧K1 r w' :=
 of_eq Tryd.func48 q48_fnok (by kernel_rfl) (by kernel_rfl) (q48_eq s0 K1) h
def q49_J0 (p2:Addr) (x5:(Int×Int)) (A6:(Int×Int)→PT) (r9:Int) (x14:Int):PT :=
 cnd (decide ((IntKind.wrap .i64 (r9-(1:Int)))=(0:Int))) (callP Tryd.prog 69 #[(.pointer (some p2))] [] fun (r15:Unit)=>A6 (x5.1,(IntKind.wrap .i64 (x14-(maxI (IntKind.wrap .i64 (r9-(1:Int))) (0:Int)))))) (A6 (x5.1,(IntKind.wrap .i64 (x14-(maxI (IntKind.wrap .i64 (r9-(1:Int))) (0:Int))))))
def q49_L1 (K1:(Sl×Int×Sl×Bool)→PT) (p2:Addr) (R4:Int×Int→PT) (x5:Int×Int) (A6:(Int×Int)→PT):PT :=
 cnd (decide ((0:Int)<x5.2)) (ld .B (Addr.add p2 2) fun (b7:Bool)=>cnd b7 (ld .S (Addr.add p2 3) fun (s8:Sl)=>cnd (decide ((255:Int)<(s8.l:Int))) (K1 (⟨none,0,0⟩,(0:Int),⟨none,0,0⟩,false)) (callP Tryd.prog 68 #[(.pointer (some p2)),(.int .i64 (IntKind.wrap .i64 (x5.2+(1:Int))))] [.c (.I .i64)] fun (r9:Int)=>ld .S (Addr.add p2 3) fun (s10:Sl)=>nw [(.int .i64 (IntKind.wrap .i64 (r9-(1:Int))))] 3 fun (p11:Addr)=>app z3 3 8 s10 ⟨(some p11),1,1⟩ fun (s12:Sl)=>st (Addr.add p2 3) (.slice s12.a s12.l s12.c)<|joinP (fun R13=>cnd (decide ((IntKind.wrap .i64 (r9-(1:Int)))<(0:Int))) (R13 (IntKind.wrap .i64 (x5.2-(1:Int)))) (R13 x5.2)) (q49_J0 p2 x5 A6 r9))) (R4 (x5.1,x5.2))) (R4 (x5.1,x5.2))
def q49_J2 (s0:Sl) (K1:(Sl×Int×Sl×Bool)→PT) (p2:Addr) (x16:Int×Int):PT :=
 ld .B (Addr.add p2 2) fun (b17:Bool)=>cnd (!b17) (K1 (⟨none,0,0⟩,(0:Int),⟨none,0,0⟩,false)) (cnd (!decide (x16.2=(0:Int))) (K1 (⟨none,0,0⟩,(0:Int),⟨none,0,0⟩,false)) (ld .S (Addr.add p2 3) fun (s18:Sl)=>cnd (decide ((256:Int)<(s18.l:Int))) (K1 (⟨none,0,0⟩,(0:Int),⟨none,0,0⟩,false)) (drw<|ld .S (Addr.add p2 3) fun (s19:Sl)=>ld (.I .i64) (Addr.add p2 1) fun (n20:Int)=>req ((8:Int)≠0)<|slc 1 s0 (some (quoI .i64 (IntKind.wrap .i64 (n20+(7:Int))) (8:Int))) none none fun (s21:Sl)=>nw [] 5 fun (p22:Addr)=>kp [((Addr.add p2 1),(.int .i64 n20)),((Addr.add p2 3),(.slice s19.a s19.l s19.c))]<|app z5 5 1 ⟨(some p22),0,0⟩ s21 fun (s23:Sl)=>kp [((Addr.add p2 3),(.slice s19.a s19.l s19.c))]<|K1 (s19,x16.1,s23,true))))
def q49 (s0:Sl) (K1:(Sl×Int×Sl×Bool)→PT):PT :=
 nw [(.slice s0.a s0.l s0.c),(.int .i64 (0:Int)),(.bool true),(.slice none 0 0)] 148 fun (p2:Addr)=>callP Tryd.prog 67 #[(.pointer (some p2)),(.int .i64 (4:Int))] [.c (.I .i64)] fun (r3:Int)=>req (0≤(IntKind.wrap .i64 (r3+(5:Int))))<|cnd (decide ((15:Int)<(IntKind.wrap .i64 (r3+(5:Int))))) (K1 (⟨none,0,0⟩,(0:Int),⟨none,0,0⟩,false)) (joinP (fun R4=>loopP ((IntKind.wrap .i64 (r3+(5:Int))),(shlI .i64 (1:Int) (IntKind.wrap .i64 (r3+(5:Int))))) (q49_L1 K1 p2 R4)) (q49_J2 s0 K1 p2))
def h49:Hint:=⟨(.n (.n .e 63 ([(3,.c (.I .i64)),(7,.c (.I .i64))],[6,0]) .e) 252 ([(3,.c (.I .i64)),(7,.c (.I .i64))],[6,0]) (.n .e 16151 ([(7,.c (.I .i64))],[8,6,0,3]) .e)),.e⟩
theorem q49_eq (s0:Sl) (K1:(Sl×Int×Sl×Bool)→PT):fnE Cx h49 [.c .S,.c (.I .i64),.c .S,.c .B] Tryd.f49 [.v (.slice s0.a s0.l s0.c)] K1=q49 s0 K1:=by kernel_rfl
theorem q49_fnok:fnOk Tryd.f49 1=true:=by kernel_rfl
theorem q49_ok (s0:Sl) (K1:(Sl×Int×Sl×Bool)→PT) {w:World} (h:q49 s0 K1 w):Calls Tryd.prog 49 #[(.slice s0.a s0.l s0.c)] w fun e w'=>∃r,e = .returned (resMk [.c .S,.c (.I .i64),.c .S,.c .B] r)∧K1 r w' :=
 of_eq Tryd.func49 q49_fnok (by kernel_rfl) (by kernel_rfl) (q49_eq s0 K1) h
def q54_L0 (s0:Sl) (s2:Sl) (R6:Unit→PT) (x7:Int) (A8:Int→PT):PT :=
 cnd (decide (x7<(s0.l:Int))) (ixS 1 s0 x7 fun (p9:Addr)=>ld (.I .i64) p9 fun (n10:Int)=>drw<|req ((8:Int)≠0)<|ixS 1 s2 (quoI .i64 (IntKind.wrap .i64 ((IntKind.wrap .i64 ((s0.l:Int)-(1:Int)))-x7)) (8:Int)) fun (p11:Addr)=>ld (.I .u8) p11 fun (n12:Int)=>req ((8:Int)≠0)<|req (0≤(Int.tmod (IntKind.wrap .i64 ((IntKind.wrap .i64 ((s0.l:Int)-(1:Int)))-x7)) (8:Int)))<|ixS 1 s2 (quoI .i64 (IntKind.wrap .i64 ((IntKind.wrap .i64 ((s0.l:Int)-(1:Int)))-x7)) (8:Int)) fun (p13:Addr)=>st p13 (.int .u8 (orI .u8 n12 (IntKind.wrap .u8 (shlI .i64 n10 (Int.tmod (IntKind.wrap .i64 ((IntKind.wrap .i64 ((s0.l:Int)-(1:Int)))-x7)) (8:Int))))))<|A8 (IntKind.wrap .i64 (x7+(1:Int)))) (R6 ())
def q54_J1 (K1:Sl→PT) (s2:Sl) (x14:Unit):PT :=
 K1 s2
def q54 (s0:Sl) (K1:Sl→PT):PT :=
 req ((8:Int)≠0)<|mks z5 5 1 (IntKind.wrap .i64 ((quoI .i64 (s0.l:Int) (8:Int))+(1:Int))) (IntKind.wrap .i64 ((quoI .i64 (s0.l:Int) (8:Int))+(1:Int))) fun (s2:Sl)=>drw<|req ((8:Int)≠0)<|ixS 1 s2 (quoI .i64 (s0.l:Int) (8:Int)) fun (p3:Addr)=>ld (.I .u8) p3 fun (n4:Int)=>req ((8:Int)≠0)<|req (0≤(Int.tmod (s0.l:Int) (8:Int)))<|ixS 1 s2 (quoI .i64 (s0.l:Int) (8:Int)) fun (p5:Addr)=>st p5 (.int .u8 (orI .u8 n4 (shlI .u8 (1:Int) (Int.tmod (s0.l:Int) (8:Int)))))<|joinP (fun R6=>loopP (0:Int) (q54_L0 s0 s2 R6)) (q54_J1 K1 s2)
def h54:Hint:=⟨(.n (.n .e 31 ([],[4]) .e) 250 ([(26,.c (.I .i64))],[4,3,24,25]) .e),.e⟩
theorem q54_eq (s0:Sl) (K1:Sl→PT):fnE Cx h54 [.c .S] Tryd.f54 [.v (.slice s0.a s0.l s0.c)] K1=q54 s0 K1:=by kernel_rfl
theorem q54_fnok:fnOk Tryd.f54 1=true:=by kernel_rfl
theorem q54_ok (s0:Sl) (K1:Sl→PT) {w:World} (h:q54 s0 K1 w):Calls Tryd.prog 54 #[(.slice s0.a s0.l s0.c)] w fun e w'=>∃r,e = .returned (resMk [.c .S] r)∧K1 r w' :=
 of_eq Tryd.func54 q54_fnok (by kernel_rfl) (by kernel_rfl) (q54_eq s0 K1) h
def q57_J0 (x4:(Int×Int)) (A5:(Int×Int)→PT) (x9:Int):PT :=
 A5 ((IntKind.wrap .i64 (x4.1+x9)),(IntKind.wrap .i64 (x4.2+(1:Int))))
def q57_L1 (s0:Sl) (R3:Int→PT) (x4:Int×Int) (A5:(Int×Int)→PT):PT :=
 cnd (decide (x4.2<(s0.l:Int))) (ixS 1 s0 x4.2 fun (p6:Addr)=>ld (.I .i64) p6 fun (n7:Int)=>joinP (fun R8=>cnd (decide (n7<(0:Int))) (R8 (1:Int)) (R8 n7)) (q57_J0 x4 A5)) (R3 x4.1)
def q57_J2 (n1:Int) (s12:Sl) (s13:Sl) (x15:(Int)) (A16:Int→PT) (n18:Int) (x22:Int):PT :=
 ixS 1 s12 n18 fun (p23:Addr)=>ld (.I .i64) p23 fun (n24:Int)=>ixS 1 s12 n18 fun (p25:Addr)=>ld (.I .i64) p25 fun (n26:Int)=>ixS 1 s12 n18 fun (p27:Addr)=>st p27 (.int .i64 (IntKind.wrap .i64 (n26+(1:Int))))<|callP Tryd.prog 44 #[(.int .i64 (IntKind.wrap .i64 (x22+n24)))] [.c (.I .i64)] fun (r28:Int)=>req (0≤(IntKind.wrap .i64 (n1-r28)))<|ixS 3 s13 x15 fun (p29:Addr)=>stL p29 0 [(.int .i64 n18),(.int .i64 (IntKind.wrap .i64 (n1-r28))),(.int .i64 (IntKind.wrap .i64 ((shlI .i64 (IntKind.wrap .i64 (x22+n24)) (IntKind.wrap .i64 (n1-r28)))-(shlI .i64 (1:Int) n1))))]<|A16 (IntKind.wrap .i64 (x15+(1:Int)))
def q57_L3 (s0:Sl) (n1:Int) (K2:(Sl×Bool)→PT) (r11:Sl) (s12:Sl) (s13:Sl) (R14:Unit→PT) (x15:Int) (A16:Int→PT):PT :=
 cnd (decide (x15<(r11.l:Int))) (ixS 1 r11 x15 fun (p17:Addr)=>ld (.I .i64) p17 fun (n18:Int)=>cnd (decide (n18<(0:Int))) (K2 (⟨none,0,0⟩,false)) (ixS 1 s0 n18 fun (p19:Addr)=>ld (.I .i64) p19 fun (n20:Int)=>joinP (fun R21=>cnd (decide (n20<(0:Int))) (R21 (1:Int)) (R21 n20)) (q57_J2 n1 s12 s13 x15 A16 n18))) (R14 ())
def q57_J4 (K2:(Sl×Bool)→PT) (s13:Sl) (x30:Unit):PT :=
 K2 (s13,true)
def q57_J5 (s0:Sl) (n1:Int) (K2:(Sl×Bool)→PT) (x10:Int):PT :=
 cnd (!decide (x10=(shlI .i64 (1:Int) n1))) (K2 (⟨none,0,0⟩,false)) (callP Tryd.prog 75 #[(.slice s0.a s0.l s0.c),(.int .i64 n1)] [.c .S] fun (r11:Sl)=>cnd (Option.isNone r11.a) (K2 (⟨none,0,0⟩,false)) (mks z3 3 8 (s0.l:Int) (s0.l:Int) fun (s12:Sl)=>mks z113 113 24 (shlI .i64 (1:Int) n1) (shlI .i64 (1:Int) n1) fun (s13:Sl)=>joinP (fun R14=>loopP (0:Int) (q57_L3 s0 n1 K2 r11 s12 s13 R14)) (q57_J4 K2 s13)))
def q57 (s0:Sl) (n1:Int) (K2:(Sl×Bool)→PT):PT :=
 req (0≤n1)<|joinP (fun R3=>loopP ((0:Int),(0:Int)) (q57_L1 s0 R3)) (q57_J5 s0 n1 K2)
def h57:Hint:=⟨(.n (.n (.n .e 15 ([(7,.c (.I .i64))],[0,1,6]) .e) 122 ([(7,.c (.I .i64)),(22,.c (.I .i64))],[20,0,1,6,21]) (.n .e 1023 ([],[12]) .e)) 7833 ([(9,.c (.I .i64))],[7,22,20,0,1,6,21]) (.n (.n .e 8186 ([(47,.c (.I .i64))],[0,11,1,12,6,45,46]) .e) 2095719 ([(15,.c (.I .i64))],[13,14,47,0,11,1,12,6,45,46]) .e)),.e⟩
theorem q57_eq (s0:Sl) (n1:Int) (K2:(Sl×Bool)→PT):fnE Cx h57 [.c .S,.c .B] Tryd.f57 [.v (.slice s0.a s0.l s0.c),.v (.int .i64 n1)] K2=q57 s0 n1 K2:=by kernel_rfl
theorem q57_fnok:fnOk Tryd.f57 2=true:=by kernel_rfl
theorem q57_ok (s0:Sl) (n1:Int) (K2:(Sl×Bool)→PT) {w:World} (h:q57 s0 n1 K2 w):Calls Tryd.prog 57 #[(.slice s0.a s0.l s0.c),(.int .i64 n1)] w fun e w'=>∃r,e = .returned (resMk [.c .S,.c .B] r)∧K2 r w' :=
 of_eq Tryd.func57 q57_fnok (by kernel_rfl) (by kernel_rfl) (q57_eq s0 n1 K2) h
def q58 (s0:Sl) (n1:Int) (K2:(Option Addr×(Int×Int)×Bool)→PT):PT :=
 nw z109 109 fun (p3:Addr)=>callP Tryd.prog 72 #[(.slice s0.a s0.l s0.c)] [.c .P,.c .B] fun (r4:Option Addr×Bool)=>cnd (!r4.2) (stL p3 0 [(.int .i64 (0:Int)),(.int .i64 (0:Int))]<|ldL [(.I .i64),(.I .i64)] p3 0 fun (r5:(Int×Int))=>K2 ((none:Option Addr),(r5.1,r5.2),false)) (callP Tryd.prog 59 #[(.pointer r4.1),(.int .i64 n1)] [.c (.I .i64)] fun (r6:Int)=>callP Tryd.prog 59 #[(.pointer r4.1),(.int .i64 n1)] [.c (.I .i64)] fun (r7:Int)=>drw<|nz r4.1 fun (p8:Addr)=>ld (.I .i64) (Addr.add p8 1) fun (n9:Int)=>stL p3 0 [(.int .i64 r6),(.int .i64 r7)]<|kp [((Addr.add p8 1),(.int .i64 n9))]<|ldL [(.I .i64),(.I .i64)] p3 0 fun (r10:(Int×Int))=>K2 (r4.1,(r10.1,r10.2),(decide ((0:Int)≤n9))))
def h58:Hint:=⟨.e,.e⟩
theorem q58_eq (s0:Sl) (n1:Int) (K2:(Option Addr×(Int×Int)×Bool)→PT):fnE Cx h58 [.c .P,.m [(.I .i64),(.I .i64)],.c .B] Tryd.f58 [.v (.slice s0.a s0.l s0.c),.v (.int .i64 n1)] K2=q58 s0 n1 K2:=by kernel_rfl
theorem q58_fnok:fnOk Tryd.f58 2=true:=by kernel_rfl
theorem q58_ok (s0:Sl) (n1:Int) (K2:(Option Addr×(Int×Int)×Bool)→PT) {w:World} (h:q58 s0 n1 K2 w):Calls Tryd.prog 58 #[(.slice s0.a s0.l s0.c),(.int .i64 n1)] w fun e w'=>∃r,e = .returned (resMk [.c .P,.m [(.I .i64),(.I .i64)],.c .B] r)∧K2 r w' :=
 of_eq Tryd.func58 q58_fnok (by kernel_rfl) (by kernel_rfl) (q58_eq s0 n1 K2) h
def q59_L0 (p0:Addr) (n1:Int) (R3:Int→PT) (x4:Int×Int) (A5:(Int×Int)→PT):PT :=
 cnd (decide (x4.2<n1)) (ld (.I .i64) (Addr.add p0 1) fun (n6:Int)=>st (Addr.add p0 1) (.int .i64 (IntKind.wrap .i64 (n6-(1:Int))))<|drw<|ld .S p0 fun (s7:Sl)=>ld (.I .i64) (Addr.add p0 1) fun (n8:Int)=>callP Tryd.prog 76 #[(.slice s7.a s7.l s7.c),(.int .i64 n8)] [.c (.I .i64),.c .B] fun (r9:Int×Bool)=>A5 ((IntKind.wrap .i64 ((IntKind.wrap .i64 ((2:Int)*x4.1))+r9.1)),(IntKind.wrap .i64 (x4.2+(1:Int))))) (R3 x4.1)
def q59_J1 (K2:Int→PT) (x10:Int):PT :=
 K2 x10
def q59 (p0:Addr) (n1:Int) (K2:Int→PT):PT :=
 joinP (fun R3=>loopP ((0:Int),(0:Int)) (q59_L0 p0 n1 R3)) (q59_J1 K2)
def h59:Hint:=⟨(.n (.n .e 7 ([(5,.c (.I .i64))],[]) .e) 58 ([(5,.c (.I .i64)),(9,.c (.I .i64))],[0,8]) .e),.e⟩
theorem q59_eq (p0:Addr) (n1:Int) (K2:Int→PT):fnE Cx h59 [.c (.I .i64)] Tryd.f59 [.pt p0,.v (.int .i64 n1)] K2=q59 p0 n1 K2:=by kernel_rfl
theorem q59_fnok:fnOk Tryd.f59 2=true:=by kernel_rfl
theorem q59_ok (p0:Addr) (n1:Int) (K2:Int→PT) {w:World} (h:q59 p0 n1 K2 w):Calls Tryd.prog 59 #[(.pointer (some p0)),(.int .i64 n1)] w fun e w'=>∃r,e = .returned (resMk [.c (.I .i64)] r)∧K2 r w' :=
 of_eq Tryd.func59 q59_fnok (by kernel_rfl) (by kernel_rfl) (q59_eq p0 n1 K2) h
def q60_L0 (s1:Sl) (n3:Int) (K4:(Sl×Bool)→PT) (r5:Option Addr×(Int×Int)×Bool) (p6:Addr) (x7:Sl×Int) (A8:(Sl×Int)→PT):PT :=
 ixA 1 2 p6 x7.2 fun (p9:Addr)=>ld (.I .i64) p9 fun (n10:Int)=>ixS 3 s1 n10 fun (p11:Addr)=>ldL [(.I .i64),(.I .i64),(.I .i64)] p11 0 fun (r12:(Int×Int×Int))=>nw z113 113 fun (p13:Addr)=>stL p13 0 [(.int .i64 r12.1),(.int .i64 r12.2.1),(.int .i64 r12.2.2)]<|ld (.I .i64) p13 fun (n14:Int)=>nw [(.int .u8 (IntKind.wrap .u8 n14))] 5 fun (p15:Addr)=>app z5 5 1 x7.1 ⟨(some p15),1,1⟩ fun (s16:Sl)=>cnd (decide (n3<(s16.l:Int))) (K4 (⟨none,0,0⟩,false)) (ld (.I .i64) (Addr.add p13 1) fun (n17:Int)=>callP Tryd.prog 59 #[(.pointer r5.1),(.int .i64 n17)] [.c (.I .i64)] fun (r18:Int)=>nz r5.1 fun (p19:Addr)=>ld (.I .i64) (Addr.add p19 1) fun (n20:Int)=>cnd (decide (n20<(0:Int))) (ixA 1 2 p6 (IntKind.wrap .i64 ((1:Int)-x7.2)) fun (p21:Addr)=>ld (.I .i64) p21 fun (n22:Int)=>ixS 3 s1 n22 fun (p23:Addr)=>ld (.I .i64) p23 fun (n24:Int)=>nw [(.int .u8 (IntKind.wrap .u8 n24))] 5 fun (p25:Addr)=>app z5 5 1 s16 ⟨(some p25),1,1⟩ fun (s26:Sl)=>K4 (s26,(decide ((s26.l:Int)≤n3)))) (ld (.I .i64) (Addr.add p13 2) fun (n27:Int)=>ixA 1 2 p6 x7.2 fun (p28:Addr)=>st p28 (.int .i64 (IntKind.wrap .i64 (n27+r18)))<|ixA 1 2 p6 x7.2 fun (p29:Addr)=>ld (.I .i64) p29 fun (n30:Int)=>cnd (decide (n30<(0:Int))) (K4 (⟨none,0,0⟩,false)) (ixA 1 2 p6 x7.2 fun (p31:Addr)=>ld (.I .i64) p31 fun (n32:Int)=>cnd (decide ((s1.l:Int)≤n32)) (K4 (⟨none,0,0⟩,false)) (A8 (s16,(IntKind.wrap .i64 ((1:Int)-x7.2)))))))
def q60 (s0:Sl) (s1:Sl) (n2:Int) (n3:Int) (K4:(Sl×Bool)→PT):PT :=
 callP Tryd.prog 58 #[(.slice s0.a s0.l s0.c),(.int .i64 n2)] [.c .P,.m [(.I .i64),(.I .i64)],.c .B] fun (r5:Option Addr×(Int×Int)×Bool)=>nw z109 109 fun (p6:Addr)=>stL p6 0 [(.int .i64 r5.2.1.1),(.int .i64 r5.2.1.2)]<|cnd (!r5.2.2) (K4 (⟨none,0,0⟩,false)) (loopP (⟨none,0,0⟩,(0:Int)) (q60_L0 s1 n3 K4 r5 p6))
def h60:Hint:=⟨(.n .e 126 ([(13,.c .S),(14,.c (.I .i64))],[10,1,11,3]) .e),.e⟩
theorem q60_eq (s0:Sl) (s1:Sl) (n2:Int) (n3:Int) (K4:(Sl×Bool)→PT):fnE Cx h60 [.c .S,.c .B] Tryd.f60 [.v (.slice s0.a s0.l s0.c),.v (.slice s1.a s1.l s1.c),.v (.int .i64 n2),.v (.int .i64 n3)] K4=q60 s0 s1 n2 n3 K4:=by kernel_rfl
theorem q60_fnok:fnOk Tryd.f60 4=true:=by kernel_rfl
theorem q60_ok (s0:Sl) (s1:Sl) (n2:Int) (n3:Int) (K4:(Sl×Bool)→PT) {w:World} (h:q60 s0 s1 n2 n3 K4 w):Calls Tryd.prog 60 #[(.slice s0.a s0.l s0.c),(.slice s1.a s1.l s1.c),(.int .i64 n2),(.int .i64 n3)] w fun e w'=>∃r,e = .returned (resMk [.c .S,.c .B] r)∧K4 r w' :=
 of_eq Tryd.func60 q60_fnok (by kernel_rfl) (by kernel_rfl) (q60_eq s0 s1 n2 n3 K4) h
def q61n_L0 (x5:(Option Addr)) (R35:Unit→PT) (x36:Int) (A37:Int→PT):PT :=
 cnd (decide (x36<(256:Int))) (nz x5 fun (p38:Addr)=>ixA 1 256 p38 x36 fun (p39:Addr)=>st p39 (.int .u32 (0:Int))<|A37 (IntKind.wrap .i64 (x36+(1:Int)))) (R35 ())
def q61n_J1 (x5:(Option Addr)) (R30:Unit→PT) (x40:Unit):PT :=
 nz x5 fun (p41:Addr)=>st (Addr.add p41 267) (.bool false)<|R30 ()
def q61n_J2 (s0:Sl) (K1:(Option Addr×Value)→PT) (x5:(Option Addr)) (x70:Unit):PT :=
 nz x5 fun (p71:Addr)=>st (Addr.add p71 260) (.int .i64 (s0.l:Int))<|K1 (x5,.nilIface)
def q61n_J3 (s0:Sl) (K1:(Option Addr×Value)→PT) (x5:(Option Addr)) (x60:Unit):PT :=
 nz x5 fun (p61:Addr)=>ld .S (Addr.add p61 273) fun (s62:Sl)=>slc 1 s62 none (some (0:Int)) none fun (s63:Sl)=>nz x5 fun (p64:Addr)=>st (Addr.add p64 273) (.slice s63.a s63.l s63.c)<|joinP (fun R65=>nz x5 fun (p66:Addr)=>ld .P (Addr.add p66 278) fun (o67:Option Addr)=>cnd (Option.isNone o67) (nwA ⟨z134⟩ 134 fun (p68:Addr)=>nz x5 fun (p69:Addr)=>st (Addr.add p69 278) (.pointer (some p68))<|R65 ()) (R65 ())) (q61n_J2 s0 K1 x5)
def q61n_J4 (s0:Sl) (K1:(Option Addr×Value)→PT) (x5:(Option Addr)) (x48:Unit):PT :=
 nz x5 fun (p49:Addr)=>ld .S (Addr.add p49 256) fun (s50:Sl)=>slc 1 s50 none (some (0:Int)) none fun (s51:Sl)=>nz x5 fun (p52:Addr)=>st (Addr.add p52 256) (.slice s51.a s51.l s51.c)<|nz x5 fun (p53:Addr)=>st (Addr.add p53 257) (.slice none 0 0)<|nz x5 fun (p54:Addr)=>st (Addr.add p54 258) (.slice none 0 0)<|joinP (fun R55=>nz x5 fun (p56:Addr)=>ld .S (Addr.add p56 273) fun (s57:Sl)=>cnd (decide ((s57.c:Int)<(513:Int))) (mks z196 196 8 (0:Int) (513:Int) fun (s58:Sl)=>nz x5 fun (p59:Addr)=>st (Addr.add p59 273) (.slice s58.a s58.l s58.c)<|R55 ()) (R55 ())) (q61n_J3 s0 K1 x5)
def q61n_J5 (s0:Sl) (K1:(Option Addr×Value)→PT) (x5:(Option Addr)) (x42:Unit):PT :=
 joinP (fun R43=>nz x5 fun (p44:Addr)=>ld .S (Addr.add p44 256) fun (s45:Sl)=>cnd (decide ((s45.c:Int)=(0:Int))) (mks z5 5 1 (0:Int) (s0.l:Int) fun (s46:Sl)=>nz x5 fun (p47:Addr)=>st (Addr.add p47 256) (.slice s46.a s46.l s46.c)<|R43 ()) (R43 ())) (q61n_J4 s0 K1 x5)
def q61n_J6 (s0:Sl) (K1:(Option Addr×Value)→PT) (x5:(Option Addr)) (x29:Unit):PT :=
 joinP (fun R30=>nz x5 fun (p31:Addr)=>ld .B (Addr.add p31 267) fun (b32:Bool)=>cnd b32 (nz x5 fun (p33:Addr)=>ld (.I .i64) (Addr.add p33 266) fun (n34:Int)=>cnd (decide (n34=(0:Int))) (joinP (fun R35=>loopP (0:Int) (q61n_L0 x5 R35)) (q61n_J1 x5 R30)) (R30 ())) (R30 ())) (q61n_J5 s0 K1 x5)
def q61n_X7 (x5:(Option Addr)) (R22:Unit→PT):PT :=
 nz x5 fun (p23:Addr)=>ld (.I .i64) (Addr.add p23 259) fun (n24:Int)=>cnd (decide (n24≤(0:Int))) (nz x5 fun (p25:Addr)=>st (Addr.add p25 259) (.int .i64 (262143:Int))<|R22 ()) (nz x5 fun (p26:Addr)=>ld (.I .i64) (Addr.add p26 259) fun (n27:Int)=>cnd (decide ((262143:Int)<n27)) (nz x5 fun (p28:Addr)=>st (Addr.add p28 259) (.int .i64 (262143:Int))<|R22 ()) (R22 ()))
def q61n_J8 (s0:Sl) (K1:(Option Addr×Value)→PT) (x5:(Option Addr)) (x15:Unit):PT :=
 nz x5 fun (p16:Addr)=>ld (.I .u8) (Addr.add p16 262) fun (n17:Int)=>cnd (decide ((11:Int)<n17)) (callP Tryd.prog 62 #[(.string ⟨#[105,110,118,97,108,105,100,32,116,97,98,108,101,76,111,103,32,45]⟩)] [.c .V] fun (r18:Value)=>K1 ((none:Option Addr),r18)) (nz x5 fun (p19:Addr)=>ld (.I .u8) (Addr.add p19 262) fun (n20:Int)=>cnd (decide (n20<(5:Int))) (callP Tryd.prog 62 #[(.string ⟨#[105,110,118,97,108,105,100,32,116,97,98,108,101,76,111,103,32,45]⟩)] [.c .V] fun (r21:Value)=>K1 ((none:Option Addr),r21)) (joinP (q61n_X7 x5) (q61n_J6 s0 K1 x5)))
def q61n_J9 (s0:Sl) (K1:(Option Addr×Value)→PT) (x5:(Option Addr)) (x10:Unit):PT :=
 joinP (fun R11=>nz x5 fun (p12:Addr)=>ld (.I .u8) (Addr.add p12 262) fun (n13:Int)=>cnd (decide (n13=(0:Int))) (nz x5 fun (p14:Addr)=>st (Addr.add p14 262) (.int .u8 (11:Int))<|R11 ()) (R11 ())) (q61n_J8 s0 K1 x5)
def q61n_J10 (s0:Sl) (K1:(Option Addr×Value)→PT) (x5:Option Addr):PT :=
 joinP (fun R6=>nz x5 fun (p7:Addr)=>ld (.I .u8) (Addr.add p7 261) fun (n8:Int)=>cnd (decide (n8=(0:Int))) (nz x5 fun (p9:Addr)=>st (Addr.add p9 261) (.int .u8 (255:Int))<|R6 ()) (R6 ())) (q61n_J9 s0 K1 x5)
def q61n (s0:Sl) (K1:(Option Addr×Value)→PT):PT :=
 cnd (decide ((262143:Int)<(s0.l:Int))) (drw<|ld .V ⟨2,0,none⟩ fun (v2:Value)=>K1 ((none:Option Addr),v2)) (joinP (fun R3=>cnd (Option.isNone (none:Option Addr)) (nwA ⟨z94⟩ 94 fun (p4:Addr)=>R3 (some p4)) (R3 (none:Option Addr))) (q61n_J10 s0 K1))
def h61n:Hint:=⟨(.n (.n (.n (.n .e 7 ([(0,.c .P)],[1]) .e) 15 ([],[1,0]) .e) 31 ([],[1,0]) (.n (.n .e 127 ([],[0,1]) .e) 255 ([],[1,0]) .e)) 511 ([],[1,0]) (.n (.n (.n .e 2042 ([],[1,0]) .e) 8191 ([],[1,0]) .e) 16338 ([(70,.c (.I .i64))],[0,1]) (.n .e 32767 ([],[1,0]) .e))),.e⟩
theorem q61n_eq (s0:Sl) (K1:(Option Addr×Value)→PT):fnE Cx h61n [.c .P,.c .V] Tryd.f61 [.v (.pointer none),.v (.slice s0.a s0.l s0.c)] K1=q61n s0 K1:=by kernel_rfl
theorem q61n_fnok:fnOk Tryd.f61 2=true:=by kernel_rfl
theorem q61n_ok (s0:Sl) (K1:(Option Addr×Value)→PT) {w:World} (h:q61n s0 K1 w):Calls Tryd.prog 61 #[(.pointer none),(.slice s0.a s0.l s0.c)] w fun e w'=>∃r,e = .returned (resMk [.c .P,.c .V] r)∧K1 r w' :=
 of_eq Tryd.func61 q61n_fnok (by kernel_rfl) (by kernel_rfl) (q61n_eq s0 K1) h
end Go.Sx
