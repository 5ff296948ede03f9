/- Lemmas for the proof: C9 T M V N R0. No conditions. -/
import Derived.Test.YtlnhldlhmplphaaGreatDoorSA01
set_option linter.unusedVariables false
set_option linter.unusedSimpArgs false
namespace Go.Sx
open Go
def cellB:Value→Value→Bool
 | .int k n,.int k' n'=>IntKind.same k k'&&decide (n=n')
 | .bool a,.bool b=>match a,b with
  | true,true=>true
  | false,false=>true
  | _,_=>false
 | .slice none l c,.slice none l' c'=>Nat.beq l l'&&Nat.beq c c'
 | .pointer none,.pointer none=>true
 | .nilIface,.nilIface=>true
 | .nilFunc,.nilFunc=>true
 | .string a,.string b=>a.data.toList.isEmpty&&b.data.toList.isEmpty
 | _,_=>false
def cellsB:List Value→List Value→Bool
 | [],[]=>true
 | a::r,b::s=>cellB a b&&cellsB r s
 | _,_=>false
theorem cellB_eq {a b:Value} (h:cellB a b=true):a=b:=by
 cases a<;>cases b<;>first|(simp [cellB] at h;done)|skip
 case bool.bool a b=>cases a<;>cases b<;>first|rfl|(simp [cellB] at h;done)
 case int.int =>
  simp only [cellB,Bool.and_eq_true,decide_eq_true_eq] at h
  rw [same_eq h.1,h.2]
 case string.string a b =>
  simp only [cellB,Bool.and_eq_true,List.isEmpty_iff] at h
  obtain ⟨⟨a⟩⟩:=a
  obtain ⟨⟨b⟩⟩:=b
  simp only at h
  rw [h.1,h.2]
 case pointer.pointer a b=>cases a<;>cases b<;>first|rfl|(simp [cellB] at h;done)
 case slice.slice a l c b l' c' =>
  cases a<;>cases b<;>first|(simp [cellB] at h;done)|skip
  simp only [cellB,Bool.and_eq_true] at h
  rw [Nat.eq_of_beq_eq_true h.1,Nat.eq_of_beq_eq_true h.2]
 all_goals rfl
theorem cellsB_eq:∀ {a b:List Value},cellsB a b=true→a=b
 | [],[],_=>rfl
 | x::r,y::s,h=>by
  simp only [cellsB,Bool.and_eq_true] at h
  rw [cellB_eq h.1,cellsB_eq h.2]
 | [],_::_,h=>by cases h
 | _::_,[],h=>by cases h
def aggD:TypeDesc→Bool
 | .struct _=>true
 | .array _ _=>true
 | _=>false
def fieldsB (P:Program):List Field→List (Nat×Nat×Bool)→Bool
 | [],[]=>true
 | f::r,(o,z,g)::s=>Nat.beq f.offset o&&(match P.info? f.type,P.underlying f.type with
   | some i,some d=>Nat.beq i.size z&&(match aggD d,g with
    | true,true=>true
    | false,false=>Nat.beq z 1
    | _,_=>false)
   | _,_=>false)&&fieldsB P r s
 | _,_=>false
def tyB (P:Program) (t:TypeId) (y:TyI):Bool :=
 match P.info? t,P.underlying t with
 | some i,some d =>
  Nat.beq i.size y.size&&Nat.beq i.bytes y.bytes &&
  (match y.zero with
   | none=>true
   | some zs=>match i.zero with
    | some v=>cellsB v.cells.toList zs&&Nat.beq zs.length y.size
    | none=>false) &&
  (match y.tg with
   | .c g=>Nat.beq y.size 1&&(match g with
    | .I k=>match d with
     | .int k'=>IntKind.same k' k
     | _=>false
    | _ => !aggD d)
   | .m ts=>aggD d&&Nat.beq ts.length y.size
   | .a n=>aggD d&&Nat.beq n y.size
   | .q=>false) &&
  (match y.k with
   | .other=>true
   | .bl=>match d with
    | .bool=>true
    | _=>false
   | .str=>match d with
    | .string=>true
    | _=>false
   | .ptr e=>match d with
    | .pointer e'=>Nat.beq e' e
    | _=>false
   | .ifc=>match d with
    | .interface _=>true
    | _=>false
   | .sl e=>match d with
    | .slice e'=>Nat.beq e' e
    | _=>false
   | .arr n e=>match d with
    | .array n' e'=>Nat.beq n' n&&Nat.beq e' e
    | _=>false
   | .st fs=>match d with
    | .struct fields=>fieldsB P fields.toList fs
    | _=>false)
 | _,_=>false
theorem fieldsB_ok {P:Program} : ∀ {fl:List Field} {fs:List (Nat×Nat×Bool)},fieldsB P fl fs=true→fs.length=fl.length ∧
  ∀(f o z:Nat) (g:Bool),fs[f]? = some (o,z,g)→∃fd i du,fl[f]? = some fd∧fd.offset=o∧P.info? fd.type=some i∧i.size=z ∧
   P.underlying fd.type=some du∧(match du with | .struct _ | .array _ _=>g=true|_=>g=false∧z=1)
 | [],[],_=>⟨rfl,fun f o z g h=>by simp at h⟩
 | [],_::_,h=>by cases h
 | _::_,[],h=>by cases h
 | fd::fl,(o,z,g)::fs,h=>by
  simp only [fieldsB,Bool.and_eq_true] at h
  obtain ⟨⟨h1,h2⟩,h3⟩:=h
  obtain ⟨h4,h5⟩:=fieldsB_ok h3
  refine ⟨by simp [h4],fun f o' z' g' hf => ?_⟩
  cases f with
  | succ f=>exact h5 f o' z' g' (by simpa using hf)
  | zero =>
   simp only [List.getElem?_cons_zero,Option.some.injEq,Prod.mk.injEq] at hf
   obtain ⟨rfl,rfl,rfl⟩:=hf
   cases hi:P.info? fd.type with
   | none=>simp [hi] at h2
   | some i =>
    cases hd:P.underlying fd.type with
    | none=>simp [hi,hd] at h2
    | some d =>
     simp only [hi,hd,Bool.and_eq_true] at h2
     refine ⟨fd,i,d,rfl,Nat.eq_of_beq_eq_true h1,hi,Nat.eq_of_beq_eq_true h2.1,hd,?_⟩
     have h6:=h2.2
     cases g
     ·cases d<;>first|(exact ⟨rfl,Nat.eq_of_beq_eq_true h6⟩)|(simp [aggD] at h6)
     ·cases d<;>first|rfl|(simp [aggD] at h6)
theorem tyB_ok {P:Program} {t:TypeId} {y:TyI} (h:tyB P t y=true):TyOk P t y:=by
 unfold tyB at h
 cases hi:P.info? t with
 | none=>rw [hi] at h;simp at h
 | some i =>
  cases hd:P.underlying t with
  | none=>rw [hi,hd] at h;simp at h
  | some d =>
   rw [hi,hd] at h
   simp only [Bool.and_eq_true] at h
   obtain ⟨⟨⟨⟨h1,h2⟩,h3⟩,h4⟩,h5⟩:=h
   refine ⟨fun g hg => ?_,⟨i,hi,Nat.eq_of_beq_eq_true h1,Nat.eq_of_beq_eq_true h2,fun zs hz => ?_⟩,d,hd,?_,?_⟩
   ·rw [hg] at h4
    simp only [Bool.and_eq_true] at h4
    exact Nat.eq_of_beq_eq_true h4.1
   ·rw [hz] at h3
    cases hv:i.zero with
    | none=>simp [hv] at h3
    | some v =>
     simp only [hv,Bool.and_eq_true] at h3
     exact ⟨v,rfl,by rw [←cellsB_eq h3.1],Nat.eq_of_beq_eq_true h3.2⟩
   ·cases hg:y.tg with
    | c g =>
     rw [hg] at h4
     simp only [Bool.and_eq_true] at h4
     have h6:=h4.2
     cases g with
     | I k =>
      cases d<;>first|(simp at h6;done)|skip
      exact congrArg TypeDesc.int (same_eq h6)
     | _=>cases d<;>first|trivial|(simp [aggD] at h6)
    | m ts =>
     rw [hg] at h4
     simp only [Bool.and_eq_true] at h4
     refine ⟨?_,Nat.eq_of_beq_eq_true h4.2⟩
     have h6:=h4.1
     cases d<;>first|trivial|(simp [aggD] at h6)
    | a n =>
     rw [hg] at h4
     simp only [Bool.and_eq_true] at h4
     refine ⟨?_,Nat.eq_of_beq_eq_true h4.2⟩
     have h6:=h4.1
     cases d<;>first|trivial|(simp [aggD] at h6)
    | q=>rw [hg] at h4;simp at h4
   ·cases hk:y.k<;>rw [hk] at h5
    case other=>trivial
    case bl=>cases d<;>first|rfl|(simp at h5;done)
    case str=>cases d<;>first|rfl|(simp at h5;done)
    case ptr e=>cases d<;>first|(exact congrArg TypeDesc.pointer (Nat.eq_of_beq_eq_true h5))|(simp at h5;done)
    case ifc=>cases d<;>first|exact ⟨_,rfl⟩|(simp at h5;done)
    case sl e=>cases d<;>first|(exact congrArg TypeDesc.slice (Nat.eq_of_beq_eq_true h5))|(simp at h5;done)
    case arr n e =>
     cases d<;>first|(simp at h5;done)|skip
     simp only [Bool.and_eq_true] at h5
     rw [Nat.eq_of_beq_eq_true h5.1,Nat.eq_of_beq_eq_true h5.2]
    case st fs =>
     cases d<;>first|(simp at h5;done)|skip
     rename_i fields
     obtain ⟨h6,h7⟩:=fieldsB_ok h5
     refine ⟨fields,rfl,by simpa using h6,fun f o z g hf => ?_⟩
     obtain ⟨fd,i,du,e1,e2⟩:=h7 f o z g hf
     exact ⟨fd,i,du,by simpa using e1,e2⟩
def Tr.all {α:Type} (p:Nat→α→Bool):Tr α→Bool
 | .e=>true
 | .n l k v r=>l.all p&&(p k v&&r.all p)
theorem Tr.all_get {α:Type} {p:Nat→α→Bool} : ∀ {T:Tr α} {k:Nat} {v:α},T.all p=true→T.get k=some v→p k v=true
 | .e,_,_,_,h=>by cases h
 | .n l k' v' r,k,v,h,hg=>by
  simp only [Tr.all,Bool.and_eq_true] at h
  simp only [Tr.get] at hg
  cases h1:Nat.blt k k' with
  | true=>rw [h1] at hg;exact Tr.all_get h.1 hg
  | false =>
   rw [h1] at hg
   simp only [cond_false] at hg
   cases h2:Nat.blt k' k with
   | true=>rw [h2] at hg;exact Tr.all_get h.2.2 hg
   | false =>
    rw [h2] at hg
    simp only [cond_false,Option.some.injEq] at hg
    have h3:¬k<k':=fun hh=>by have:=Nat.blt_eq.mpr hh;rw [h1] at this;cases this
    have h4:¬k'<k:=fun hh=>by have:=Nat.blt_eq.mpr hh;rw [h2] at this;cases this
    have:k'=k:=by omega
    subst this
    subst hg
    exact h.2.1
theorem good_of {C:Ctx} (h1:C.T.all (tyB C.P)=true) (h2:C.R.all (fun f _=>hasFn C.P f)=true) (h3:C.P.follows .mixedOrders=true):Good C :=
 ⟨fun _ _ h=>tyB_ok (Tr.all_get h1 h),fun _ _ h=>Tr.all_get h2 h,h3⟩
end Go.Sx
namespace Go.Sx
open Go Go.Proofs
set_option maxRecDepth 100000
def z3:List Value := [(.int .i64 (0:Int))]
def z5:List Value := [(.int .u8 (0:Int))]
def z79:List Value := [(.int .u32 (0:Int))]
def z80:List Value:=List.replicate 256 (.int .u32 (0:Int))
def z81:List Value := [(.int .u16 (0:Int))]
def z94:List Value:=List.replicate 256 (.int .u32 (0:Int))++(List.replicate 3 (.slice none 0 0)++(List.replicate 2 (.int .i64 (0:Int))++(List.replicate 4 (.int .u8 (0:Int))++([(.int .u16 (0:Int))]++([(.int .i64 (0:Int))]++([(.bool false)]++(List.replicate 2 (.int .u8 (0:Int))++(List.replicate 8 (.slice none 0 0)++([(.pointer (none:Option Addr))]++(List.replicate 256 (.int .u8 (0:Int))))))))))))
def z364:List Value:=List.replicate 256 (.slice none 0 0)
def z155:List Value := [(.int .i64 (0:Int)),(.int .i64 (0:Int)),(.int .i64 (0:Int))]
def z162:List Value := [(.string ⟨#[]⟩)]
def z134:List Value:=List.replicate 256 (.int .u32 (0:Int))++(List.replicate 256 (.int .i16 (0:Int))++([(.slice none 0 0)]++([(.int .i64 (0:Int))]++([(.slice none 0 0)]++(List.replicate 2 (.int .u64 (0:Int))++([(.int .u8 (0:Int))]++([(.int .u64 (0:Int))]++([(.int .u8 (0:Int))]++(List.replicate 5 (.slice none 0 0)++([(.int .i64 (0:Int))]++([(.slice none 0 0)]++([(.int .i64 (0:Int))]++([(.int .u16 (0:Int))]++([(.int .u8 (0:Int))]++(List.replicate 2 (.bool false)++(List.replicate 2 (.int .u8 (0:Int))))))))))))))))))
def z167:List Value:=List.replicate 12 (.int .u8 (0:Int))
def z140:List Value := [(.int .u16 (0:Int)),(.int .u8 (0:Int))]
def z148:List Value := [(.slice none 0 0),(.int .i64 (0:Int)),(.bool false),(.slice none 0 0)]
def z113:List Value := [(.int .i64 (0:Int)),(.int .i64 (0:Int)),(.int .i64 (0:Int))]
def z109:List Value := [(.int .i64 (0:Int)),(.int .i64 (0:Int))]
def z115:List Value := [(.slice none 0 0),(.int .i64 (0:Int))]
def z196:List Value := [(.int .u64 (0:Int))]
def z202:List Value:=List.replicate 12 (.int .u16 (0:Int))
def z203:List Value:=List.replicate 16 (.int .u16 (0:Int))
def z229:List Value:=List.replicate 64 (.int .u32 (0:Int))
def z233:List Value:=List.replicate 13 (.int .u32 (0:Int))
def z208:List Value:=List.replicate 257 (.int .i16 (0:Int))
def z210:List Value := [(.int .i32 (0:Int)),(.int .u32 (0:Int))]
def z213:List Value := [(.pointer (none:Option Addr)),(.slice none 0 0),(.int .u16 (0:Int))]
def z219:List Value := [(.int .u64 (0:Int)),(.int .u8 (0:Int)),(.slice none 0 0)]
def z222:List Value := [(.int .u64 (0:Int)),(.int .u64 (0:Int)),(.int .i64 (0:Int))]
def TT:Tr TyI:=(.n (.n (.n (.n (.n (.n (.n .e 3 (⟨.c (.I .i64),.other,1,8,some z3⟩) .e) 4 (⟨.c .B,.bl,1,1,none⟩) .e) 5 (⟨.c (.I .u8),.other,1,1,some z5⟩) (.n .e 9 (⟨.c .V,.str,1,16,none⟩) .e)) 21 (⟨.c (.I .i32),.other,1,4,none⟩) (.n (.n .e 22 (⟨.c .S,.sl 5,1,24,none⟩) .e) 23 (⟨.c .S,.sl 35,1,24,none⟩) (.n .e 29 (⟨.c .S,.sl 3,1,24,none⟩) .e))) 35 (⟨.c (.I .u32),.other,1,4,some z79⟩) (.n (.n (.n .e 36 (⟨.c .P,.ptr 60,1,8,none⟩) .e) 38 (⟨.c .V,.ifc,1,16,none⟩) (.n .e 43 (⟨.c .V,.other,1,8,none⟩) .e)) 45 (⟨.c (.I .u8),.other,1,1,none⟩) (.n (.n .e 46 (⟨.a 256,.arr 256 35,256,1024,some z80⟩) .e) 47 (⟨.c (.I .u16),.other,1,2,some z81⟩) (.n .e 48 (⟨.c .S,.sl 107,1,24,none⟩) .e)))) 49 (⟨.c .S,.sl 107,1,24,none⟩) (.n (.n (.n (.n .e 53 (⟨.c .S,.sl 122,1,24,none⟩) .e) 55 (⟨.c .P,.ptr 103,1,8,none⟩) (.n .e 58 (⟨.a 256,.arr 256 5,256,256,none⟩) .e)) 60 (⟨.a 535,.st [(0,256,true),(256,1,false),(257,1,false),(258,1,false),(259,1,false),(260,1,false),(261,1,false),(262,1,false),(263,1,false),(264,1,false),(265,1,false),(266,1,false),(267,1,false),(268,1,false),(269,1,false),(270,1,false),(271,1,false),(272,1,true),(273,1,false),(274,4,true),(278,1,false),(279,0,true),(279,256,true)],535,1592,some z94⟩) (.n (.n .e 64 (⟨.a 256,.arr 256 29,256,6144,some z364⟩) .e) 67 (⟨.c .P,.ptr 46,1,8,none⟩) (.n .e 74 (⟨.c .S,.sl 115,1,24,none⟩) .e))) 79 (⟨.c .S,.sl 82,1,24,none⟩) (.n (.n (.n .e 82 (⟨.m [(.I .i64),(.I .i64),(.I .i64)],.st [(0,1,false),(1,1,false),(2,1,false)],3,24,some z155⟩) .e) 83 (⟨.c (.I .u64),.other,1,8,none⟩) (.n .e 85 (⟨.c .P,.ptr 87,1,8,none⟩) .e)) 87 (⟨.m [.V],.st [(0,1,false)],1,16,some z162⟩) (.n (.n .e 88 (⟨.c (.I .i16),.other,1,2,none⟩) .e) 89 (⟨.a 256,.arr 256 88,256,512,none⟩) (.n .e 91 (⟨.m [.S,(.I .i64)],.st [(0,1,false),(1,1,false)],2,32,none⟩) .e))))) 92 (⟨.c (.I .u64),.other,1,8,none⟩) (.n (.n (.n (.n (.n (.n .e 96 (⟨.m [(.I .u64),(.I .u8),.S],.st [(0,1,false),(1,1,false),(2,1,false)],3,40,none⟩) .e) 97 (⟨.c .S,.sl 47,1,24,none⟩) .e) 98 (⟨.c .S,.sl 159,1,24,none⟩) (.n .e 100 (⟨.m [.S,.S,.S],.st [(0,1,false),(1,1,false),(2,1,false)],3,72,none⟩) .e)) 103 (⟨.a 534,.st [(0,256,true),(256,256,true),(512,2,true),(514,4,true),(518,3,true),(521,3,true),(524,1,false),(525,1,false),(526,1,false),(527,1,false),(528,1,false),(529,1,false),(530,1,false),(531,1,false),(532,1,false),(533,1,false)],534,1800,some z134⟩) (.n (.n .e 104 (⟨.a 12,.arr 12 5,12,12,some z167⟩) .e) 107 (⟨.m [(.I .u16),(.I .u8)],.st [(0,1,false),(1,1,false)],2,4,some z140⟩) (.n .e 111 (⟨.c .P,.ptr 113,1,8,none⟩) .e))) 113 (⟨.m [.S,(.I .i64),.B,.S],.st [(0,1,false),(1,1,false),(2,1,false),(3,1,false)],4,64,some z148⟩) (.n (.n (.n .e 115 (⟨.m [(.I .i64),(.I .i64),(.I .i64)],.st [(0,1,false),(1,1,false),(2,1,false)],3,24,some z113⟩) .e) 116 (⟨.c .P,.ptr 121,1,8,none⟩) (.n .e 117 (⟨.m [(.I .i64),(.I .i64)],.arr 2 3,2,16,some z109⟩) .e)) 121 (⟨.m [.S,(.I .i64)],.st [(0,1,false),(1,1,false)],2,32,some z115⟩) (.n (.n .e 122 (⟨.c (.I .u64),.other,1,8,some z196⟩) .e) 130 (⟨.a 12,.arr 12 47,12,24,some z202⟩) (.n .e 131 (⟨.a 16,.arr 16 47,16,32,some z203⟩) .e)))) 147 (⟨.m [(.I .u32),(.I .u32)],.st [(0,1,false),(1,1,false)],2,8,none⟩) (.n (.n (.n (.n .e 148 (⟨.a 64,.arr 32 147,64,256,some z229⟩) .e) 149 (⟨.c .S,.sl 147,1,24,none⟩) (.n .e 152 (⟨.a 13,.arr 13 35,13,52,some z233⟩) .e)) 155 (⟨.m [(.I .u32),(.I .u32),(.I .u32),(.I .u32),(.I .u32),(.I .u32),(.I .u32),(.I .u32)],.arr 8 35,8,32,none⟩) (.n (.n .e 156 (⟨.a 257,.arr 257 88,257,514,some z208⟩) .e) 157 (⟨.c .S,.sl 88,1,24,none⟩) (.n .e 159 (⟨.m [(.I .i32),(.I .u32)],.st [(0,1,false),(1,1,false)],2,8,some z210⟩) .e))) 160 (⟨.c .P,.ptr 96,1,8,none⟩) (.n (.n (.n .e 162 (⟨.m [.P,.S,(.I .u16)],.st [(0,1,false),(1,1,false),(2,1,false)],3,40,some z213⟩) .e) 164 (⟨.c .P,.ptr 100,1,8,none⟩) (.n .e 167 (⟨.m [(.I .u64),(.I .u8),.S],.st [(0,1,false),(1,1,false),(2,1,false)],3,40,some z219⟩) .e)) 170 (⟨.m [(.I .u64),(.I .u64),(.I .i64)],.st [(0,1,false),(1,1,false),(2,1,false)],3,24,some z222⟩) (.n (.n .e 180 (⟨.c .P,.ptr 167,1,8,none⟩) .e) 182 (⟨.a 32,.arr 32 47,32,64,none⟩) (.n .e 183 (⟨.m [],.st [],0,0,none⟩) .e))))))
def RR:Tr (List Tg):=(.n (.n (.n (.n (.n (.n (.n .e 3 [.c .B] .e) 4 [.c .S] (.n .e 5 [.c .S,.c (.I .i64)] .e)) 6 [.c .S,.c (.I .i64)] (.n (.n .e 7 [.c .B] .e) 8 [.c .S,.c (.I .i64),.c .B] .e)) 9 [.c .B] (.n (.n (.n .e 10 [.c .S] .e) 11 [.c .P,.c .V] .e) 12 [.c (.I .i64)] (.n (.n .e 13 [.c .S,.c .V] .e) 14 [.c .S] .e))) 15 [.c .S,.c .B,.c .V] (.n (.n (.n (.n .e 16 [.c .S,.c (.I .i64),.c .B] .e) 17 [.c (.I .i64)] .e) 18 [.c .S] (.n (.n .e 19 [.c .V] .e) 20 [.c .V] .e)) 21 [.c .P,.c .V] (.n (.n (.n .e 22 [.c .V] .e) 23 [.c .S,.c .B,.c .V] .e) 24 [.c .S,.c .B,.c .V] (.n (.n .e 25 [.c .S,.c (.I .i64),.c .S,.c .B] .e) 26 [.c .S,.c .B] .e)))) 27 [.c .S,.c .B] (.n (.n (.n (.n (.n .e 28 [.c .S] .e) 29 [.c .V] .e) 30 [.c .S] (.n (.n .e 31 [] .e) 32 [.c .S,.c .V] .e)) 33 [.c .S,.c .B,.c .V] (.n (.n (.n .e 34 [.c .S,.c .V] .e) 35 [.c .S,.c .V] .e) 36 [.c (.I .i64)] (.n (.n .e 37 [.c (.I .i64)] .e) 38 [] .e))) 39 [.c .S] (.n (.n (.n (.n .e 40 [.c .P,.m [(.I .i64),(.I .i64)],.c .B] .e) 41 [.c (.I .i64)] .e) 42 [] (.n (.n .e 43 [] .e) 44 [.c (.I .u32)] .e)) 45 [] (.n (.n (.n .e 46 [] .e) 47 [] .e) 48 [.c (.I .u16)] (.n (.n .e 49 [.c (.I .u8)] .e) 50 [.c (.I .u8)] .e))))) 51 [.c (.I .u8)] (.n (.n (.n (.n (.n (.n .e 52 [.c .P,.c .V] .e) 53 [.c (.I .i64)] .e) 54 [] (.n (.n .e 55 [.c .V] .e) 56 [.c .V] .e)) 57 [.c .V] (.n (.n (.n .e 58 [.c .V] .e) 59 [.c (.I .i64),.c .B] .e) 60 [.c .B] (.n (.n .e 61 [.c (.I .i64)] .e) 62 [.c .S] .e))) 63 [.c (.I .i64),.c .B] (.n (.n (.n (.n .e 64 [.c .P,.c .B] .e) 65 [.c (.I .i64),.c .B] .e) 66 [.c (.I .u8)] (.n (.n .e 67 [.c (.I .u32)] .e) 68 [.c (.I .u64)] .e)) 69 [] (.n (.n (.n .e 70 [.c (.I .u8)] .e) 71 [.c (.I .u32)] .e) 72 [.c (.I .i64)] (.n (.n .e 73 [.c .V] .e) 74 [] .e)))) 75 [.c (.I .u32)] (.n (.n (.n (.n (.n .e 76 [] .e) 77 [] .e) 78 [] (.n (.n .e 79 [] .e) 80 [] .e)) 81 [] (.n (.n (.n .e 82 [] .e) 83 [] .e) 84 [.c .S] (.n (.n .e 85 [.m [(.I .u64),(.I .u64),(.I .i64)]] .e) 86 [.m [(.I .u64),(.I .u64),(.I .i64)]] .e))) 87 [.c (.I .u64),.c (.I .u64)] (.n (.n (.n (.n .e 88 [] .e) 89 [.c (.I .i64)] .e) 90 [] (.n (.n .e 91 [] .e) 92 [] .e)) 93 [] (.n (.n (.n .e 94 [] .e) 95 [] .e) 96 [] (.n (.n .e 97 [] .e) 98 [] .e))))))
noncomputable def Cx:Ctx:=⟨Tryz.prog,TT,RR⟩
theorem good:Good Cx:=good_of (by kernel_rfl) (by kernel_rfl) (by kernel_rfl)
theorem of_eq {f:FuncId} {fn:Func} {H:Hint} {gs:List Tg} {es:List Ent} {n:Nat} {args:Array Value} {κ:resT gs→PT} {q:PT} {w:World} (hf:Tryz.prog.funcs[f]? = some fn)
  (hok:fnOk fn n=true) (hn:es.length=n) (ha:(es.map Ent.val).toArray=args) (hq:fnE Cx H gs fn es κ=q) (h:q w) :
  Calls Tryz.prog f args w fun e w'=>∃r,e = .returned (resMk gs r)∧κ r w':=by
 subst hn ha
 rw [←hq] at h
 exact fn_calls good hf hok h
end Go.Sx
namespace Go.Sx
open Go Go.IntWalk
abbrev Cells:=Nat→Option Value
structure Blk (w:World) (b:Nat) (f:Cells):Prop where
 cell:∀i,w.cell? ⟨b,i,none⟩=f i
 froz:∀i,w.frozen? ⟨b,i,none⟩=false
 lt:b<w.heap.size
def updC (f:Cells) (o:Nat) (v:Value):Cells:=fun i=>if i=o then some v else f i
theorem add_mk (b o n:Nat):Addr.add ⟨b,o,none⟩ n=⟨b,o+n,none⟩:=by
 unfold Addr.add
 split
 ·subst_vars;rfl
 ·rfl
theorem heap_setCell_ne {w:World} {a:Addr} {v:Value} {b:Nat} (h:b≠a.block):(w.setCell a v).heap[b]? = w.heap[b]? := by
 unfold World.setCell
 simp only [Array.getElem?_modify]
 rw [if_neg (fun e=>h e.symm)]
theorem cell?_of_heap {w w':World} {b:Nat} (h:w'.heap[b]? = w.heap[b]?) (i:Nat) (s:Option Nat):w'.cell? ⟨b,i,s⟩=w.cell? ⟨b,i,s⟩:=by
 unfold World.cell?
 simp only [h]
theorem frozen?_of_heap {w w':World} {b:Nat} (h:w'.heap[b]? = w.heap[b]?) (i:Nat) (s:Option Nat):w'.frozen? ⟨b,i,s⟩=w.frozen? ⟨b,i,s⟩:=by
 unfold World.frozen?
 simp only [h]
structure Fm (w w':World) (S:List Nat):Prop where
 os:w'.os=w.os
 tape:w'.tape=w.tape
 out:w'.output=w.output
 size:w.heap.size≤w'.heap.size
 old:∀b,b<w.heap.size→b∉S→w'.heap[b]? = w.heap[b]?
theorem Fm.refl (w:World) (S:List Nat):Fm w w S:=⟨rfl,rfl,rfl,Nat.le_refl _,fun _ _ _=>rfl⟩
theorem Fm.drew {w w':World} {S:List Nat} (h:Fm w w' S):Fm w w'.drew S:=⟨h.os,h.tape,h.out,h.size,h.old⟩
theorem Fm.alloc {w w':World} {S:List Nat} {o:Obj} (h:Fm w w' S):Fm w (w'.alloc o) S:=by
 refine ⟨h.os,h.tape,h.out,?_,?_⟩
 ·have:=h.size;rw [World.size_alloc];omega
 ·intro b hb hS
  rw [←h.old b hb hS]
  show (w'.heap.push o)[b]? = _
  have:=h.size
  rw [Array.getElem?_push_lt (by omega),Array.getElem?_eq_getElem (by omega)]
theorem Fm.set {w w':World} {S:List Nat} {a:Addr} {v:Value} (h:Fm w w' S) (ha:a.block∈S∨w.heap.size≤a.block):Fm w (w'.setCell a v) S:=by
 refine ⟨h.os,h.tape,h.out,?_,?_⟩
 ·rw [World.size_setCell];exact h.size
 ·intro b hb hS
  rw [←h.old b hb hS]
  apply heap_setCell_ne
  intro e
  subst e
  rcases ha with ha|ha
  ·exact hS ha
  ·omega
theorem Fm.trans {w0 w1 w2:World} {S S':List Nat} (h:Fm w0 w1 S) (h':Fm w1 w2 S') (hs:∀b∈S',b∈S∨w0.heap.size≤b):Fm w0 w2 S:=by
 refine ⟨h'.os.trans h.os,h'.tape.trans h.tape,h'.out.trans h.out,Nat.le_trans h.size h'.size,?_⟩
 intro b hb hS
 have h1:=h.size
 rw [h'.old b (by omega) (fun e=>(hs b e).elim hS (fun e=>by omega)),h.old b hb hS]
theorem Fm.mono {w w':World} {S S':List Nat} (h:Fm w w' S) (hs:∀b∈S,b∈S'∨w.heap.size≤b):Fm w w' S' :=
 ⟨h.os,h.tape,h.out,h.size,fun b hb hS=>h.old b hb (fun e=>(hs b e).elim hS (fun e=>by omega))⟩
theorem Blk.fr {w w':World} {b:Nat} {f:Cells} {S:List Nat} (h:Blk w b f) (h':Fm w w' S) (hS:b∉S):Blk w' b f :=
 ⟨fun i=>(cell?_of_heap (h'.old b h.lt hS) i none).trans (h.cell i),fun i=>(frozen?_of_heap (h'.old b h.lt hS) i none).trans (h.froz i),Nat.lt_of_lt_of_le h.lt h'.size⟩
theorem Blk.drew {w:World} {b:Nat} {f:Cells} (h:Blk w b f):Blk w.drew b f:=⟨h.cell,h.froz,h.lt⟩
theorem Blk.alloc {w:World} {b:Nat} {f:Cells} {o:Obj} (h:Blk w b f):Blk (w.alloc o) b f:=h.fr ((Fm.refl w []).alloc) (by simp)
theorem Blk.other {w:World} {b:Nat} {f:Cells} {a:Addr} {v:Value} (h:Blk w b f) (hb:b≠a.block):Blk (w.setCell a v) b f :=
 h.fr ((Fm.refl w [a.block]).set (.inl (by simp))) (by simpa using hb)
theorem Blk.set {w:World} {b o:Nat} {f:Cells} {v:Value} (h:Blk w b f) (ho:(f o).isSome):Blk (w.setCell ⟨b,o,none⟩ v) b (updC f o v):=by
 refine ⟨?_,?_,?_⟩
 ·intro i
  unfold updC
  split
  ·subst_vars
   obtain ⟨u,hu⟩:=Option.isSome_iff_exists.mp ho
   exact World.cell?_setCell_same _ _ _ ((h.cell _).trans hu)
  ·rename_i hne
   rw [World.cell?_setCell_other _ _ _ _ (by intro e;injection e with _ e2 _;exact hne e2.symm)]
   exact h.cell i
 ·intro i
  rw [World.frozen?_setCell]
  exact h.froz i
 ·rw [World.size_setCell];exact h.lt
theorem Blk.new {w:World} {cs:Array Value} {T:TypeId} : Blk (w.alloc (.cells cs T)) w.heap.size fun i=>cs[i]? := by
 refine ⟨?_,?_,?_⟩
 ·intro i;simp
 ·intro i;simp
 ·rw [World.size_alloc];omega
theorem Blk.congr {w:World} {b:Nat} {f g:Cells} (h:Blk w b f) (e:f=g):Blk w b g:=e▸h
theorem ld_b {w:World} {b o:Nat} {f:Cells} {t:CT} {x:t.ty} {κ:t.ty→PT} (h:Blk w b f) (hx:f o=some (t.mk x)) (hk:κ x w):ld t ⟨b,o,none⟩ κ w:=⟨x,(h.cell o).trans hx,hk⟩
theorem canSt_b {w:World} {b o:Nat} {f:Cells} (h:Blk w b f) (hx:(f o).isSome):canSt w ⟨b,o,none⟩:=by
 obtain ⟨u,hu⟩:=Option.isSome_iff_exists.mp hx
 exact ⟨⟨u,(h.cell o).trans hu⟩,h.froz o⟩
theorem st_b {w:World} {b o:Nat} {f:Cells} {v:Value} {κ:PT} (h:Blk w b f) (hx:(f o).isSome) (hv:one v=true) (hk:κ (w.setCell ⟨b,o,none⟩ v)):st ⟨b,o,none⟩ v κ w :=
 ⟨hv,canSt_b h hx,hk⟩
theorem ixS_b {w:World} {sz b o k:Nat} {s:Sl} {i:Int} {κ:Addr→PT} (ha:s.a=some ⟨b,o,none⟩) (hi:i=k) (hk:k<s.l) (h:κ ⟨b,o+k*sz,none⟩ w):ixS sz s i κ w :=
 ⟨_,ha,k,hi,hk,by rw [add_mk];exact h⟩
theorem ixA_b {w:World} {sz n b o k:Nat} {i:Int} {κ:Addr→PT} (hi:i=k) (hk:k<n) (h:κ ⟨b,o+k*sz,none⟩ w):ixA sz n ⟨b,o,none⟩ i κ w :=
 ⟨k,hi,hk,by rw [add_mk];exact h⟩
theorem cnd_d {p:Prop} [Decidable p] {x y:PT} {w:World} (h1:p→x w) (h2:¬p→y w):cnd (decide p) x y w :=
 ⟨fun h=>h1 (of_decide_eq_true h),fun h=>h2 (of_decide_eq_false h)⟩
theorem cnd_nd {p:Prop} [Decidable p] {x y:PT} {w:World} (h1:¬p→x w) (h2:p→y w):cnd (!decide p) x y w :=
 ⟨fun h=>h1 (by simpa using h),fun h=>h2 (by simpa using h)⟩
theorem joinP_id {α:Type} {X:(α→PT)→PT} {Y:α→PT} {w:World} (h:X Y w):joinP X Y w:=⟨Y,fun _ _ h=>h,h⟩
structure Arr (k:IntKind) (w:World) (s:Sl) (l:List Nat):Prop where
 len:s.l=l.length
 cap:s.l≤s.c
 non:s.a=none→l = []
 get:∀b,s.a=some b→∀i (h:i<l.length),w.cell? (b.add i)=some (.int k (l[i]:Nat))
theorem Arr.fr {k:IntKind} {w w':World} {s:Sl} {l:List Nat} {S:List Nat} (h:Arr k w s l) (h':Fm w w' S) (hS:∀a,s.a=some a→l ≠ []→a.block∉S):Arr k w' s l:=by
 refine ⟨h.len,h.cap,h.non,?_⟩
 intro b hb i hi
 have h1:=h.get b hb i hi
 rw [←h1]
 have h2:=World.block_lt_of_cell? _ _ h1
 have h3:(b.add i).block=b.block:=by unfold Addr.add;split<;>rfl
 rw [h3] at h2
 have h4:=h'.old b.block h2 (hS b hb (by intro e;subst e;simp at hi))
 have h5:b.add i=⟨b.block,(b.add i).off,(b.add i).spot⟩:=by rw [←h3]
 rw [h5]
 exact cell?_of_heap h4 _ _
theorem wI8 {x:Int} (h1 : -128≤x) (h2:x<128):IntKind.i8.wrap x=x:=i8_in x ⟨h1,by omega⟩
theorem wI16 {x:Int} (h1 : -32768≤x) (h2:x<32768):IntKind.i16.wrap x=x:=i16_in x ⟨h1,by omega⟩
theorem wI32 {x:Int} (h1 : -2147483648≤x) (h2:x<2147483648):IntKind.i32.wrap x=x:=i32_in x ⟨h1,by omega⟩
theorem wI64 {x:Int} (h1 : -9223372036854775808≤x) (h2:x<9223372036854775808):IntKind.i64.wrap x=x:=i64_in x ⟨h1,by omega⟩
theorem wU8 {x:Int} (h1:0≤x) (h2:x<256):IntKind.u8.wrap x=x:=u8_in x ⟨h1,by omega⟩
theorem wU16 {x:Int} (h1:0≤x) (h2:x<65536):IntKind.u16.wrap x=x:=u16_in x ⟨h1,by omega⟩
theorem wU32 {x:Int} (h1:0≤x) (h2:x<4294967296):IntKind.u32.wrap x=x:=u32_in x ⟨h1,by omega⟩
theorem wU64 {x:Int} (h1:0≤x) (h2:x<18446744073709551616):IntKind.u64.wrap x=x:=u64_in x ⟨h1,by omega⟩
theorem wrap_nat (k:IntKind) (n:Nat) (h:n<2^(k.bits-1)):k.wrap (n:Int)=n:=by
 cases k<;>simp only [IntKind.bits] at h<;>first
  | exact wI8 (by omega) (by omega)|exact wI16 (by omega) (by omega)|exact wI32 (by omega) (by omega)|exact wI64 (by omega) (by omega)
  | exact wU8 (by omega) (by omega)|exact wU16 (by omega) (by omega)|exact wU32 (by omega) (by omega)|exact wU64 (by omega) (by omega)
theorem wrap_u {k:IntKind} (hk:k.signed=false) (n:Nat):k.wrap (n:Int)=(n%2^k.bits:Nat):=by
 unfold IntKind.wrap
 simp only [hk,Bool.false_and,Bool.false_eq_true,if_false]
 norm_cast
end Go.Sx
namespace Go.Sx
open Go
def updL (f:Cells) (o:Nat) (xs:List Value):Cells:=fun i=>if o≤i∧i<o+xs.length then xs[i-o]? else f i
theorem updL_nil (f:Cells) (o:Nat):updL f o []=f:=by
 funext i;unfold updL;rw [if_neg (by simp)]
theorem updL_cons (f:Cells) (o:Nat) (v:Value) (xs:List Value):updL (updC f o v) (o+1) xs=updL f o (v::xs):=by
 funext i;unfold updL updC
 by_cases h1:o+1≤i∧i<o+1+xs.length
 ·rw [if_pos h1,if_pos (by simp;omega)]
  rw [show i-o=(i-(o+1))+1 by omega,List.getElem?_cons_succ]
 ·rw [if_neg h1]
  by_cases h2:i=o
  ·subst h2;rw [if_pos rfl,if_pos (by simp)];simp
  ·rw [if_neg h2,if_neg (by simp;omega)]
theorem setL_off (w:World) (b o i:Nat) (xs:List Value):setL w ⟨b,o,none⟩ i xs=setL w ⟨b,o+i,none⟩ 0 xs:=by
 induction xs generalizing w o i with
 | nil=>rfl
 | cons v r ih =>
  simp only [setL,add_mk,Nat.add_zero]
  rw [ih,ih (o:=o+i),Nat.add_assoc]
theorem Blk.setL {w:World} {b o:Nat} {f:Cells} {xs:List Value} (h:Blk w b f) (ho:∀i,i<xs.length→(f (o+i)).isSome):Blk (setL w ⟨b,o,none⟩ 0 xs) b (updL f o xs):=by
 induction xs generalizing w o f with
 | nil=>rw [updL_nil];exact h
 | cons v r ih =>
  simp only [Go.Sx.setL,add_mk,Nat.add_zero]
  rw [setL_off, ←updL_cons]
  have h1:=h.set (v:=v) (ho 0 (by simp))
  refine ih h1 ?_
  intro i hi
  have:=ho (i+1) (by simpa using hi)
  unfold updC
  split
  ·rfl
  ·rw [show o+1+i=o+(i+1) by omega];exact this
theorem Fm.setL {w w':World} {S:List Nat} {b o:Nat} {xs:List Value} (h:Fm w w' S) (hb:b∈S∨w.heap.size≤b):Fm w (setL w' ⟨b,o,none⟩ 0 xs) S:=by
 induction xs generalizing w' o with
 | nil=>exact h
 | cons v r ih =>
  simp only [Go.Sx.setL,add_mk,Nat.add_zero]
  rw [setL_off]
  exact ih (h.set hb)
structure Vec (sz:Nat) (w:World) (s:Sl) (l:List Value):Prop where
 len:l.length=s.l*sz
 cap:s.l≤s.c
 non:s.a=none→s.c=0
 blk:∀a,s.a=some a→a.off=0∧a.spot=none∧∃f,Blk w a.block f∧(∀i,i<l.length→f i=l[i]?)∧∀i,i<s.c*sz→(f i).isSome
def Sl.bs (s:Sl):List Nat:=match s.a with
 | some a => [a.block]
 | none => []
theorem Vec.nil {sz:Nat} {w:World} : Vec sz w ⟨none,0,0⟩ []:=⟨by simp,Nat.le_refl _,fun _=>rfl,by simp⟩
theorem Vec.fr {sz:Nat} {w w':World} {s:Sl} {l:List Value} {S:List Nat} (h:Vec sz w s l) (h':Fm w w' S) (hS:∀b∈s.bs,b∉S):Vec sz w' s l:=by
 refine ⟨h.len,h.cap,h.non,?_⟩
 intro a ha
 obtain ⟨h1,h2,f,h3,h4,h5⟩:=h.blk a ha
 exact ⟨h1,h2,f,h3.fr h' (hS _ (by unfold Sl.bs;rw [ha];simp)),h4,h5⟩
theorem Vec.lt {sz:Nat} {w:World} {s:Sl} {l:List Value} (h:Vec sz w s l):∀b∈s.bs,b<w.heap.size:=by
 intro b hb
 unfold Sl.bs at hb
 split at hb
 ·rename_i a ha
  obtain ⟨h1,h2,f,h3,h4,h5⟩:=h.blk a ha
  simp at hb;subst hb;exact h3.lt
 ·simp at hb
theorem zrep_size (zs:List Value) (n:Nat):(zrep zs n).size=n*zs.length:=by simp [zrep]
theorem zrep_some (zs:List Value) (n i:Nat) (h:i<n*zs.length):((zrep zs n)[i]?).isSome:=by
 rw [Array.getElem?_eq_getElem (by rw [zrep_size];exact h)];rfl
structure Has (sz:Nat) (w:World) (x:Sl) (xs:List Value):Prop where
 len:xs.length=x.l*sz
 get:∀b,x.a=some b→∀i,i<xs.length→w.cell? (b.add i)=xs[i]?
 non:x.a=none→xs = []
 one:∀v∈xs,one v=true
theorem app_v {zs:List Value} {T:TypeId} {bytes:Nat} {s x:Sl} {κ:Sl→PT} {w:World} {l xs:List Value} (h:Vec zs.length w s l) (hx:Has zs.length w x xs) (hz:0<zs.length) (hb:(s.l+x.l)*bytes≤2^46)
  (hk:∀s' w',Vec zs.length w' s' (l++xs)→Fm w w' s.bs→(∀b∈s'.bs,b∈s.bs∨w.heap.size≤b)→κ s' w'):app zs T bytes s x κ w:=by
 refine ⟨hb,?_,?_⟩
 ·intro hc
  refine ⟨xs,hx.len,hx.get,hx.non,hx.one,?_⟩
  cases ha:s.a with
  | some a =>
   obtain ⟨h1,h2,f,h3,h4,h5⟩:=h.blk a ha
   obtain ⟨ab,ao,asp⟩:=a
   simp only at h1 h2 h3
   subst h1 h2
   simp only [add_mk,Nat.zero_add]
   have hlt:(s.l+x.l)*zs.length≤s.c*zs.length:=Nat.mul_le_mul_right _ hc
   rw [Nat.add_mul] at hlt
   have hxl:=hx.len
   refine ⟨?_,?_⟩
   ·intro i hi
    exact canSt_b h3 (h5 _ (by omega))
   ·have h6:=h3.setL (o:=s.l*zs.length) (xs:=xs) (fun i hi=>h5 _ (by omega))
    refine hk _ _ ⟨?_,?_,?_,?_⟩ ?_ ?_
    ·simp only [List.length_append,h.len,hx.len,Nat.add_mul]
    ·exact hc
    ·intro h;cases h
    ·intro a ha'
     injection ha' with ha'
     subst ha'
     refine ⟨rfl,rfl,_,h6,?_,?_⟩
     ·intro i hi
      have hl:=h.len
      unfold updL
      by_cases hi2:s.l*zs.length≤i
      ·simp only [List.length_append] at hi
       rw [if_pos (by omega),List.getElem?_append_right (by omega),h.len]
      ·rw [if_neg (by omega),h4 i (by omega),List.getElem?_append_left (by omega)]
     ·intro i hi
      unfold updL
      split
      ·rename_i hh
       rw [List.getElem?_eq_getElem (by omega)];rfl
      ·exact h5 i hi
    ·exact (Fm.refl w _).setL (.inl (by unfold Sl.bs;rw [ha];simp))
    ·intro b hb'
     left
     unfold Sl.bs at hb' ⊢
     rw [ha]
     exact hb'
  | none =>
   have h0:=h.non ha
   have h01:=h.cap
   have hx0:x.l=0:=by omega
   have hs0:s.l=0:=by omega
   have hxs:xs = []:=List.length_eq_zero_iff.mp (by rw [hx.len,hx0,Nat.zero_mul])
   have hl:l = []:=List.length_eq_zero_iff.mp (by rw [h.len,hs0,Nat.zero_mul])
   subst hxs hl
   refine hk _ _ ⟨?_,?_,?_,?_⟩ (Fm.refl w _) ?_
   ·simp [hx0,hs0]
   ·exact hc
   ·intro _;exact h0
   ·intro a ha';cases ha'
   ·intro b hb';unfold Sl.bs at hb';simp at hb'
 ·intro hc
  refine ⟨l,xs,h.len,?_,?_,hx.len,hx.get,hx.non,?_⟩
  ·intro b hb' i hi
   obtain ⟨h1,h2,f,h3,h4,h5⟩:=h.blk b hb'
   obtain ⟨ab,ao,asp⟩:=b
   simp only at h1 h2 h3
   subst h1 h2
   rw [add_mk,Nat.zero_add,h3.cell,h4 i hi]
  ·intro ha
   have h0:=h.non ha
   have h01:=h.cap
   exact List.length_eq_zero_iff.mp (by rw [h.len,show s.l=0 by omega,Nat.zero_mul])
  ·intro c hc1 hc2
   have hl:=h.len
   have hxl:=hx.len
   refine hk _ _ ⟨?_,hc1,?_,?_⟩ ?_ ?_
   ·simp only [List.length_append,h.len,hx.len,Nat.add_mul]
   ·intro h;cases h
   ·intro a ha'
    injection ha' with ha'
    subst ha'
    refine ⟨rfl,rfl,_,Blk.new,?_,?_⟩
    ·intro i hi
     rw [Array.getElem?_append_left (by simp only [Array.size_append,List.size_toArray];simp only [List.length_append] at hi;omega)]
     rw [←Array.getElem?_toList];simp
    ·intro i hi
     simp only at hi
     rw [Array.getElem?_eq_getElem (by simp only [Array.size_append,List.size_toArray,zrep_size,Nat.sub_mul,Nat.add_mul];have:=Nat.mul_le_mul_right zs.length hc1;rw [Nat.add_mul] at this;omega)]
     rfl
   ·exact (Fm.refl w _).drew.alloc
   ·intro b hb'
    right
    unfold Sl.bs at hb'
    simp at hb'
    subst hb'
    exact Nat.le_refl _
theorem app_1 {z:Value} {T T':TypeId} {bytes:Nat} {s:Sl} {κ:Sl→PT} {w:World} {l:List Value} {v:Value} (h:Vec 1 w s l) (hv:one v=true) (hb:(s.l+1)*bytes≤2^46)
  (hk:∀s' w',Vec 1 w' s' (l ++ [v])→Fm w w' s.bs→(∀b∈s'.bs,b∈s.bs∨w.heap.size≤b)→κ s' w'):nw [v] T' (fun p=>app [z] T bytes s ⟨some p,1,1⟩ κ) w:=by
 have h0:Fm w (w.alloc (.cells ⟨[v]⟩ T')) []:=(Fm.refl w []).alloc
 refine app_v (zs := [z]) (xs := [v]) (h.fr h0 (by simp)) ⟨rfl,?_,(fun h=>by cases h),by simpa using hv⟩ (by simp) hb ?_
 ·intro b hb' i hi
  injection hb' with hb'
  subst hb'
  have hi:i=0:=by simpa using hi
  subst hi
  simp [add_mk]
 ·intro s' w' h1 h2 h3
  refine hk s' w' h1 ((h0.mono (S':=s.bs) (by simp)).trans h2 (fun b hb => .inl hb)) ?_
  intro b hb'
  rcases h3 b hb' with h4|h4
  ·exact .inl h4
  ·right;rw [World.size_alloc] at h4;omega
def leN:List Nat→Nat
 | []=>0
 | x::r=>x+256*leN r
def By (l:List Nat):Prop:=∀x∈l,x<256
theorem By.cons {x:Nat} {l:List Nat} (h:By (x::l)):x<256∧By l:=⟨h x (by simp),fun y hy=>h y (by simp [hy])⟩
theorem getD_out {l:List Nat} {i:Nat} (h:l.length≤i):l.getD i 0=0:=by rw [List.getD_eq_getElem?_getD,List.getElem?_eq_none h];rfl
theorem getD_in {l:List Nat} {i:Nat} (h:i<l.length):l.getD i 0=l[i]:=by rw [List.getD_eq_getElem?_getD,List.getElem?_eq_getElem h];rfl
theorem leN_lt:∀ {l:List Nat},By l→leN l<256^l.length
 | [],_=>by simp [leN]
 | x::r,h=>by
  have ⟨h1,h2⟩:=h.cons
  have:=leN_lt h2
  simp only [leN,List.length_cons,Nat.pow_succ]
  omega
theorem leN_get:∀ {l:List Nat} (i:Nat),By l→leN l/256^i%256=l.getD i 0
 | [],i,_=>by simp [leN]
 | x::r,0,h=>by
  have ⟨h1,h2⟩:=h.cons
  simp only [leN,Nat.pow_zero,Nat.div_one,List.getD_cons_zero]
  omega
 | x::r,i+1,h=>by
  have ⟨h1,h2⟩:=h.cons
  simp only [leN,List.getD_cons_succ]
  rw [←leN_get i h2,Nat.pow_succ,Nat.mul_comm (256^i) 256, ←Nat.div_div_eq_div_mul]
  rw [show (x+256*leN r)/256=leN r by omega]
theorem leN_bit {l:List Nat} (n:Nat) (h:By l):leN l/2^n%2=l.getD (n/8) 0/2^(n%8)%2:=by
 rw [←leN_get _ h]
 have e:n=8*(n/8)+n%8:=by omega
 have h8:n%8<8:=Nat.mod_lt _ (by omega)
 generalize n/8=q at *
 generalize n%8=r at *
 subst e
 rw [Nat.pow_add, ←Nat.div_div_eq_div_mul,show (2:Nat)^(8*q)=256^q by rw [Nat.pow_mul]]
 generalize leN l/256^q=y
 have:(256:Nat)=2^r*2^(8-r):=by rw [←Nat.pow_add,show r+(8-r)=8 by omega]
 rw [this,Nat.mod_mul_right_div_self]
 rw [show (2:Nat)^(8-r)=2*2^(7-r) by rw [←Nat.pow_succ',show (7-r).succ=8-r by omega]]
 rw [Nat.mod_mul_right_mod]
theorem leN_append (a b:List Nat):leN (a++b)=leN a+256^a.length*leN b:=by
 induction a with
 | nil=>simp [leN]
 | cons x r ih=>simp only [List.cons_append,leN,ih,List.length_cons,Nat.pow_succ];rw [Nat.mul_add,Nat.mul_comm (256^r.length) 256,Nat.mul_assoc];omega
theorem ofInt_nat (n m:Nat):BitVec.ofInt n (m:Int)=BitVec.ofNat n m:=BitVec.ofInt_natCast n m
theorem andI_nat {k:IntKind} (hk:k.signed=false) (a b:Nat) (ha:a<2^k.bits) (hb:b<2^k.bits):andI k a b=((a &&& b:Nat):Int):=by
 unfold andI
 rw [ofInt_nat,ofInt_nat,BitVec.toNat_and,BitVec.toNat_ofNat,BitVec.toNat_ofNat,Nat.mod_eq_of_lt ha,Nat.mod_eq_of_lt hb,wrap_u hk]
 rw [Nat.mod_eq_of_lt (Nat.lt_of_le_of_lt Nat.and_le_left ha)]
theorem orI_nat {k:IntKind} (hk:k.signed=false) (a b:Nat) (ha:a<2^k.bits) (hb:b<2^k.bits):orI k a b=((a ||| b:Nat):Int):=by
 unfold orI
 rw [ofInt_nat,ofInt_nat,BitVec.toNat_or,BitVec.toNat_ofNat,BitVec.toNat_ofNat,Nat.mod_eq_of_lt ha,Nat.mod_eq_of_lt hb,wrap_u hk]
 rw [Nat.mod_eq_of_lt (Nat.or_lt_two_pow ha hb)]
theorem andI_i64 (a b:Nat) (ha:a<2^63) (hb:b<2^63):andI .i64 a b=((a &&& b:Nat):Int):=by
 unfold andI
 rw [ofInt_nat,ofInt_nat,BitVec.toNat_and,BitVec.toNat_ofNat,BitVec.toNat_ofNat]
 simp only [IntKind.bits]
 rw [Nat.mod_eq_of_lt (by omega),Nat.mod_eq_of_lt (by omega)]
 exact wrap_nat .i64 _ (Nat.lt_of_le_of_lt Nat.and_le_left ha)
theorem shrI_nat (k:IntKind) (a b:Nat) (ha:a<2^k.bits):shrI k a b=((a/2^b:Nat):Int):=by
 unfold shrI
 rw [Int.toNat_natCast]
 have e:((2:Int)^(min b k.bits))=((2^(min b k.bits):Nat):Int):=by norm_cast
 rw [e,Int.fdiv_eq_ediv_of_nonneg _ (by exact Int.natCast_nonneg _), ←Int.natCast_ediv]
 by_cases hb:b≤k.bits
 ·rw [Nat.min_eq_left hb]
 ·rw [Nat.min_eq_right (by omega),Nat.div_eq_of_lt ha,Nat.div_eq_of_lt (Nat.lt_of_lt_of_le ha (Nat.pow_le_pow_right (by omega) (by omega)))]
theorem shlI_nat (k:IntKind) (a b:Nat) (hb:b≤k.bits) (h:a*2^b<2^(k.bits-1)):shlI k a b=((a*2^b:Nat):Int):=by
 unfold shlI
 rw [Int.toNat_natCast,Nat.min_eq_left hb]
 have e:((a:Int)*(2:Int)^b)=((a*2^b:Nat):Int):=by norm_cast
 rw [e,wrap_nat k _ h]
theorem shlI_u {k:IntKind} (hk:k.signed=false) (a b:Nat) (hb:b≤k.bits):shlI k a b=((a*2^b%2^k.bits:Nat):Int):=by
 unfold shlI
 rw [Int.toNat_natCast,Nat.min_eq_left hb]
 have e:((a:Int)*(2:Int)^b)=((a*2^b:Nat):Int):=by norm_cast
 rw [e,wrap_u hk]
theorem quoI_nat (k:IntKind) (a b:Nat) (h:a<2^(k.bits-1)):quoI k a b=((a/b:Nat):Int):=by
 unfold quoI
 rw [show Int.tdiv (a:Int) (b:Int)=((a/b:Nat):Int) from rfl]
 exact wrap_nat k _ (Nat.lt_of_le_of_lt (Nat.div_le_self _ _) h)
end Go.Sx
namespace Go.Sx
open Go Go.Proofs
set_option maxRecDepth 100000
def q303_J0 (K1:Bool→PT) (x7:Bool):PT :=
 K1 x7
def q303_J1 (K1:Bool→PT) (x10:Bool):PT :=
 K1 x10
def q303_J2 (K1:Bool→PT) (x15:Bool):PT :=
 K1 x15
def q303 (s0:Sl) (K1:Bool→PT):PT :=
 cnd (decide ((2147483647:Int)<(s0.l:Int))) (K1 true) (cnd (decide ((s0.l:Int)<(2:Int))) (K1 true) (cnd (decide ((16384:Int)<(s0.l:Int))) (K1 true) (callP Tryz.prog 4 #[(.slice s0.a s0.l s0.c)] [.c .S] fun (r2:Sl)=>callP Tryz.prog 5 #[(.slice r2.a r2.l r2.c)] [.c .S,.c (.I .i64)] fun (r3:Sl×Int)=>callP Tryz.prog 6 #[(.slice r2.a r2.l r2.c),(.slice s0.a s0.l s0.c),(.bool false)] [.c .S,.c (.I .i64)] fun (r4:Sl×Int)=>cnd (!decide (r3.2=(0:Int))) (joinP (fun R5=>cnd (!decide (r3.2=(0:Int))) (R5 true) (callP Tryz.prog 7 #[(.int .i64 r4.2)] [.c .B] fun (r6:Bool)=>R5 r6)) (q303_J0 K1)) (cnd (!decide (r4.2=(0:Int))) (joinP (fun R8=>cnd (!decide (r3.2=(0:Int))) (R8 true) (callP Tryz.prog 7 #[(.int .i64 r4.2)] [.c .B] fun (r9:Bool)=>R8 r9)) (q303_J1 K1)) (callP Tryz.prog 8 #[(.slice r3.1.a r3.1.l r3.1.c)] [.c .S,.c (.I .i64),.c .B] fun (r11:Sl×Int×Bool)=>joinP (fun R12=>cnd r11.2.2 (callP Tryz.prog 10 #[(.slice r11.1.a r11.1.l r11.1.c),(.slice s0.a s0.l s0.c)] [.c .S] fun (r13:Sl)=>callP Tryz.prog 9 #[(.slice r4.1.a r4.1.l r4.1.c),(.slice r13.a r13.l r13.c)] [.c .B] fun (r14:Bool)=>R12 r14) (R12 false)) (q303_J2 K1))))))
def h303:Hint:=⟨(.n (.n .e 511 ([(2,.c .B)],[]) .e) 1018 ([(2,.c .B)],[]) (.n .e 1018 ([(2,.c .B)],[]) .e)),.e⟩
theorem q303_eq (s0:Sl) (K1:Bool→PT):fnE Cx h303 [.c .B] Tryz.f3 [.v (.slice s0.a s0.l s0.c)] K1=q303 s0 K1:=by kernel_rfl
theorem q303_fnok:fnOk Tryz.f3 1=true:=by kernel_rfl
theorem q303_ok (s0:Sl) (K1:Bool→PT) {w:World} (h:q303 s0 K1 w):Calls Tryz.prog 3 #[(.slice s0.a s0.l s0.c)] w fun e w'=>∃r,e = .returned (resMk [.c .B] r)∧K1 r w' :=
 of_eq Tryz.func3 q303_fnok (by kernel_rfl) (by kernel_rfl) (q303_eq s0 K1) h
def q30_L0 (s0:Sl) (s2:Sl) (R3:Unit→PT) (x4:Int) (A5:Int→PT):PT :=
 cnd (decide (x4<(s0.l:Int))) (ixS 1 s0 x4 fun (p6:Addr)=>ld (.I .u8) p6 fun (n7:Int)=>ixS 1 s2 n7 fun (p8:Addr)=>ld (.I .u32) p8 fun (n9:Int)=>ixS 1 s2 n7 fun (p10:Addr)=>st p10 (.int .u32 (IntKind.wrap .u32 (n9+(1:Int))))<|A5 (IntKind.wrap .i64 (x4+(1:Int)))) (R3 ())
def q30_J1 (K1:Sl→PT) (s2:Sl) (x11:Unit):PT :=
 K1 s2
def q30 (s0:Sl) (K1:Sl→PT):PT :=
 mks z79 35 4 (256:Int) (256:Int) fun (s2:Sl)=>joinP (fun R3=>loopP (0:Int) (q30_L0 s0 s2 R3)) (q30_J1 K1 s2)
def h30:Hint:=⟨(.n (.n .e 7 ([],[3]) .e) 58 ([(9,.c (.I .i64))],[3,7,8]) .e),.e⟩
theorem q30_eq (s0:Sl) (K1:Sl→PT):fnE Cx h30 [.c .S] Tryz.f4 [.v (.slice s0.a s0.l s0.c)] K1=q30 s0 K1:=by kernel_rfl
theorem q30_fnok:fnOk Tryz.f4 1=true:=by kernel_rfl
theorem q30_ok (s0:Sl) (K1:Sl→PT) {w:World} (h:q30 s0 K1 w):Calls Tryz.prog 4 #[(.slice s0.a s0.l s0.c)] w fun e w'=>∃r,e = .returned (resMk [.c .S] r)∧K1 r w' :=
 of_eq Tryz.func4 q30_fnok (by kernel_rfl) (by kernel_rfl) (q30_eq s0 K1) h
def q39 (s0:Sl) (K1:(Sl×Int)→PT):PT :=
 callP Tryz.prog 11 #[(.slice s0.a s0.l s0.c)] [.c .P,.c .V] fun (r2:Option Addr×Value)=>req (isIf r2.2=true)<|cnd (!(isNil r2.2)) (callP Tryz.prog 12 #[r2.2] [.c (.I .i64)] fun (r3:Int)=>K1 (⟨none,0,0⟩,r3)) (callP Tryz.prog 13 #[(.pointer r2.1),(.slice none 0 0)] [.c .S,.c .V] fun (r4:Sl×Value)=>req (isIf r4.2=true)<|cnd (!(isNil r4.2)) (callP Tryz.prog 12 #[r4.2] [.c (.I .i64)] fun (r5:Int)=>K1 (⟨none,0,0⟩,r5)) (callP Tryz.prog 14 #[(.slice r4.1.a r4.1.l r4.1.c)] [.c .S] fun (r6:Sl)=>K1 (r6,(0:Int))))
def h39:Hint:=⟨.e,.e⟩
theorem q39_eq (s0:Sl) (K1:(Sl×Int)→PT):fnE Cx h39 [.c .S,.c (.I .i64)] Tryz.f5 [.v (.slice s0.a s0.l s0.c)] K1=q39 s0 K1:=by kernel_rfl
theorem q39_fnok:fnOk Tryz.f5 1=true:=by kernel_rfl
theorem q39_ok (s0:Sl) (K1:(Sl×Int)→PT) {w:World} (h:q39 s0 K1 w):Calls Tryz.prog 5 #[(.slice s0.a s0.l s0.c)] w fun e w'=>∃r,e = .returned (resMk [.c .S,.c (.I .i64)] r)∧K1 r w' :=
 of_eq Tryz.func5 q39_fnok (by kernel_rfl) (by kernel_rfl) (q39_eq s0 K1) h
def q41 (s0:Sl) (s1:Sl) (b2:Bool) (K3:(Sl×Int)→PT):PT :=
 callP Tryz.prog 11 #[(.slice s0.a s0.l s0.c)] [.c .P,.c .V] fun (r4:Option Addr×Value)=>req (isIf r4.2=true)<|cnd (!(isNil r4.2)) (callP Tryz.prog 12 #[r4.2] [.c (.I .i64)] fun (r5:Int)=>K3 (⟨none,0,0⟩,r5)) (nz r4.1 fun (p6:Addr)=>st (Addr.add p6 263) (.int .u8 (3:Int))<|callP Tryz.prog 15 #[(.slice s1.a s1.l s1.c),(.pointer r4.1),(.bool b2)] [.c .S,.c .B,.c .V] fun (r7:Sl×Bool×Value)=>req (isIf r7.2.2=true)<|cnd (!(isNil r7.2.2)) (callP Tryz.prog 12 #[r7.2.2] [.c (.I .i64)] fun (r8:Int)=>K3 (⟨none,0,0⟩,r8)) (callP Tryz.prog 14 #[(.slice r7.1.a r7.1.l r7.1.c)] [.c .S] fun (r9:Sl)=>K3 (r9,(0:Int))))
def h41:Hint:=⟨.e,.e⟩
theorem q41_eq (s0:Sl) (s1:Sl) (b2:Bool) (K3:(Sl×Int)→PT):fnE Cx h41 [.c .S,.c (.I .i64)] Tryz.f6 [.v (.slice s0.a s0.l s0.c),.v (.slice s1.a s1.l s1.c),.v (.bool b2)] K3=q41 s0 s1 b2 K3:=by kernel_rfl
theorem q41_fnok:fnOk Tryz.f6 3=true:=by kernel_rfl
theorem q41_ok (s0:Sl) (s1:Sl) (b2:Bool) (K3:(Sl×Int)→PT) {w:World} (h:q41 s0 s1 b2 K3 w):Calls Tryz.prog 6 #[(.slice s0.a s0.l s0.c),(.slice s1.a s1.l s1.c),(.bool b2)] w fun e w'=>∃r,e = .returned (resMk [.c .S,.c (.I .i64)] r)∧K3 r w' :=
 of_eq Tryz.func6 q41_fnok (by kernel_rfl) (by kernel_rfl) (q41_eq s0 s1 b2 K3) h
def q25_J0 (K1:Bool→PT) (x3:Bool):PT :=
 K1 x3
def q25 (n0:Int) (K1:Bool→PT):PT :=
 joinP (fun R2=>cnd (decide ((0:Int)≤n0)) (R2 (decide (n0≤(4:Int)))) (R2 false)) (q25_J0 K1)
def h25:Hint:=⟨(.n .e 3 ([(2,.c .B)],[]) .e),.e⟩
theorem q25_eq (n0:Int) (K1:Bool→PT):fnE Cx h25 [.c .B] Tryz.f7 [.v (.int .i64 n0)] K1=q25 n0 K1:=by kernel_rfl
theorem q25_fnok:fnOk Tryz.f7 1=true:=by kernel_rfl
theorem q25_ok (n0:Int) (K1:Bool→PT) {w:World} (h:q25 n0 K1 w):Calls Tryz.prog 7 #[(.int .i64 n0)] w fun e w'=>∃r,e = .returned (resMk [.c .B] r)∧K1 r w' :=
 of_eq Tryz.func7 q25_fnok (by kernel_rfl) (by kernel_rfl) (q25_eq n0 K1) h
def q15_J0 (x4:(Int×Int×Int)) (A5:(Int×Int×Int)→PT) (x9:Int×Int):PT :=
 A5 (x9.1,x9.2,(IntKind.wrap .i64 (x4.2.2+(1:Int))))
def q15_L1 (K1:(Sl×Int×Bool)→PT) (r2:Sl×Int×Bool) (R3:Int×Int→PT) (x4:Int×Int×Int) (A5:(Int×Int×Int)→PT):PT :=
 cnd (decide (x4.2.2<(r2.1.l:Int))) (joinP (fun R6=>ixS 1 r2.1 x4.2.2 fun (p7:Addr)=>ld (.I .i64) p7 fun (n8:Int)=>cnd (decide ((12:Int)<n8)) (K1 (⟨none,0,0⟩,(0:Int),false)) (cnd (decide ((0:Int)<n8)) (req (0≤(IntKind.wrap .i64 (n8-(1:Int))))<|R6 (x4.1,(IntKind.wrap .i64 (x4.2.1+(shlI .i64 (1:Int) (IntKind.wrap .i64 (n8-(1:Int)))))))) (R6 (x4.1,x4.2.1)))) (q15_J0 x4 A5)) (R3 (x4.1,x4.2.1))
def q15_J2 (x18:(Int×Int)) (A19:(Int×Int)→PT) (x24:Int):PT :=
 A19 (x24,(IntKind.wrap .i64 (x18.2+(1:Int))))
def q15_L3 (r11:Int) (s15:Sl) (s16:Sl) (R17:Int→PT) (x18:Int×Int) (A19:(Int×Int)→PT):PT :=
 cnd (decide (x18.2<(s15.l:Int))) (joinP (fun R20=>ixS 1 s15 x18.2 fun (p21:Addr)=>ld (.I .i64) p21 fun (n22:Int)=>cnd (decide ((0:Int)<n22)) (ixS 1 s16 x18.2 fun (p23:Addr)=>st p23 (.int .i64 (IntKind.wrap .i64 ((IntKind.wrap .i64 ((IntKind.wrap .i64 (r11+(1:Int)))+(1:Int)))-n22)))<|R20 (IntKind.wrap .i64 (x18.1+(1:Int)))) (R20 x18.1)) (q15_J2 x18 A19)) (R17 x18.1)
def q15_J4 (K1:(Sl×Int×Bool)→PT) (x10:(Int×Int)) (s16:Sl) (x25:Int):PT :=
 K1 (s16,x10.1,(decide ((1:Int)<x25)))
def q15_J5 (K1:(Sl×Int×Bool)→PT) (r2:Sl×Int×Bool) (x10:Int×Int):PT :=
 cnd (decide (x10.2=(0:Int))) (K1 (⟨none,0,0⟩,(0:Int),false)) (callP Tryz.prog 17 #[(.int .i64 x10.2)] [.c (.I .i64)] fun (r11:Int)=>req (0≤(IntKind.wrap .i64 (r11+(1:Int))))<|cnd (decide ((11:Int)<(IntKind.wrap .i64 (r11+(1:Int))))) (K1 (⟨none,0,0⟩,(0:Int),false)) (callP Tryz.prog 17 #[(.int .i64 (IntKind.wrap .i64 ((shlI .i64 (1:Int) (IntKind.wrap .i64 (r11+(1:Int))))-x10.2)))] [.c (.I .i64)] fun (r12:Int)=>req (0≤r12)<|cnd (!decide ((IntKind.wrap .i64 ((shlI .i64 (1:Int) (IntKind.wrap .i64 (r11+(1:Int))))-x10.2))=(shlI .i64 (1:Int) r12))) (K1 (⟨none,0,0⟩,(0:Int),false)) (callP Tryz.prog 17 #[(.int .i64 (IntKind.wrap .i64 ((shlI .i64 (1:Int) (IntKind.wrap .i64 (r11+(1:Int))))-x10.2)))] [.c (.I .i64)] fun (r13:Int)=>nw [(.int .i64 (IntKind.wrap .i64 (r13+(1:Int))))] 3 fun (p14:Addr)=>app z3 3 8 r2.1 ⟨(some p14),1,1⟩ fun (s15:Sl)=>mks z3 3 8 (256:Int) (256:Int) fun (s16:Sl)=>joinP (fun R17=>loopP ((0:Int),(0:Int)) (q15_L3 r11 s15 s16 R17)) (q15_J4 K1 x10 s16))))
def q15 (s0:Sl) (K1:(Sl×Int×Bool)→PT):PT :=
 callP Tryz.prog 16 #[(.slice s0.a s0.l s0.c)] [.c .S,.c (.I .i64),.c .B] fun (r2:Sl×Int×Bool)=>cnd (!r2.2.2) (K1 (⟨none,0,0⟩,(0:Int),false)) (cnd (decide ((255:Int)<(r2.1.l:Int))) (K1 (⟨none,0,0⟩,(0:Int),false)) (joinP (fun R3=>loopP (r2.2.1,(0:Int),(0:Int)) (q15_L1 K1 r2 R3)) (q15_J5 K1 r2)))
def h15:Hint:=⟨(.n (.n (.n .e 31 ([(3,.c (.I .i64)),(6,.c (.I .i64))],[5]) .e) 250 ([(3,.c (.I .i64)),(6,.c (.I .i64)),(29,.c (.I .i64))],[27,5,28]) (.n .e 2003 ([(3,.c (.I .i64)),(6,.c (.I .i64))],[29,27,5,28]) .e)) 8191 ([(11,.c (.I .i64))],[2,3]) (.n (.n .e 65530 ([(11,.c (.I .i64)),(70,.c (.I .i64))],[9,2,68,3,69]) .e) 524243 ([(11,.c (.I .i64))],[70,9,2,68,3,69]) .e)),.e⟩
theorem q15_eq (s0:Sl) (K1:(Sl×Int×Bool)→PT):fnE Cx h15 [.c .S,.c (.I .i64),.c .B] Tryz.f8 [.v (.slice s0.a s0.l s0.c)] K1=q15 s0 K1:=by kernel_rfl
theorem q15_fnok:fnOk Tryz.f8 1=true:=by kernel_rfl
theorem q15_ok (s0:Sl) (K1:(Sl×Int×Bool)→PT) {w:World} (h:q15 s0 K1 w):Calls Tryz.prog 8 #[(.slice s0.a s0.l s0.c)] w fun e w'=>∃r,e = .returned (resMk [.c .S,.c (.I .i64),.c .B] r)∧K1 r w' :=
 of_eq Tryz.func8 q15_fnok (by kernel_rfl) (by kernel_rfl) (q15_eq s0 K1) h
def q27_L0 (s0:Sl) (s1:Sl) (K2:Bool→PT) (R3:Unit→PT) (x4:Int) (A5:Int→PT):PT :=
 cnd (decide (x4<(s0.l:Int))) (drw<|ixS 1 s0 x4 fun (p6:Addr)=>ld (.I .u8) p6 fun (n7:Int)=>ixS 1 s1 x4 fun (p8:Addr)=>ld (.I .u8) p8 fun (n9:Int)=>cnd (!decide (n7=n9)) (K2 false) (A5 (IntKind.wrap .i64 (x4+(1:Int))))) (R3 ())
def q27_J1 (K2:Bool→PT) (x10:Unit):PT :=
 K2 true
def q27 (s0:Sl) (s1:Sl) (K2:Bool→PT):PT :=
 cnd (!decide ((s0.l:Int)=(s1.l:Int))) (K2 false) (joinP (fun R3=>loopP (0:Int) (q27_L0 s0 s1 K2 R3)) (q27_J1 K2))
def h27:Hint:=⟨(.n (.n .e 7 ([],[]) .e) 58 ([(13,.c (.I .i64))],[1,0,12]) .e),.e⟩
theorem q27_eq (s0:Sl) (s1:Sl) (K2:Bool→PT):fnE Cx h27 [.c .B] Tryz.f9 [.v (.slice s0.a s0.l s0.c),.v (.slice s1.a s1.l s1.c)] K2=q27 s0 s1 K2:=by kernel_rfl
theorem q27_fnok:fnOk Tryz.f9 2=true:=by kernel_rfl
theorem q27_ok (s0:Sl) (s1:Sl) (K2:Bool→PT) {w:World} (h:q27 s0 s1 K2 w):Calls Tryz.prog 9 #[(.slice s0.a s0.l s0.c),(.slice s1.a s1.l s1.c)] w fun e w'=>∃r,e = .returned (resMk [.c .B] r)∧K2 r w' :=
 of_eq Tryz.func9 q27_fnok (by kernel_rfl) (by kernel_rfl) (q27_eq s0 s1 K2) h
def q300_J0 (p4:Addr) (x6:(Sl×Int)) (A7:(Sl×Int)→PT) (n9:Int) (x15:Unit):PT :=
 ixA 1 256 p4 n9 fun (p16:Addr)=>ld .S p16 fun (s17:Sl)=>app z3 3 8 x6.1 s17 fun (s18:Sl)=>A7 (s18,(IntKind.wrap .i64 (x6.2+(1:Int))))
def q300_L1 (s0:Sl) (s1:Sl) (p4:Addr) (R5:Sl→PT) (x6:Sl×Int) (A7:(Sl×Int)→PT):PT :=
 cnd (decide (x6.2<(s1.l:Int))) (ixS 1 s1 x6.2 fun (p8:Addr)=>ld (.I .u8) p8 fun (n9:Int)=>joinP (fun R10=>ixA 1 256 p4 n9 fun (p11:Addr)=>ld .S p11 fun (s12:Sl)=>cnd (Option.isNone s12.a) (callP Tryz.prog 18 #[(.slice s0.a s0.l s0.c),(.int .i64 (IntKind.wrap .i64 n9))] [.c .S] fun (r13:Sl)=>ixA 1 256 p4 n9 fun (p14:Addr)=>st p14 (.slice r13.a r13.l r13.c)<|R10 ()) (R10 ())) (q300_J0 p4 x6 A7 n9)) (R5 x6.1)
def q300_L2 (x19:(Sl)) (s20:Sl) (R21:Unit→PT) (x22:Int) (A23:Int→PT):PT :=
 cnd (decide (x22<(x19.l:Int))) (ixS 1 x19 x22 fun (p24:Addr)=>ld (.I .i64) p24 fun (n25:Int)=>drw<|req ((8:Int)≠0)<|ixS 1 s20 (quoI .i64 (IntKind.wrap .i64 ((IntKind.wrap .i64 ((x19.l:Int)-(1:Int)))-x22)) (8:Int)) fun (p26:Addr)=>ld (.I .u8) p26 fun (n27:Int)=>req ((8:Int)≠0)<|req (0≤(Int.tmod (IntKind.wrap .i64 ((IntKind.wrap .i64 ((x19.l:Int)-(1:Int)))-x22)) (8:Int)))<|ixS 1 s20 (quoI .i64 (IntKind.wrap .i64 ((IntKind.wrap .i64 ((x19.l:Int)-(1:Int)))-x22)) (8:Int)) fun (p28:Addr)=>st p28 (.int .u8 (orI .u8 n27 (IntKind.wrap .u8 (shlI .i64 n25 (Int.tmod (IntKind.wrap .i64 ((IntKind.wrap .i64 ((x19.l:Int)-(1:Int)))-x22)) (8:Int))))))<|A23 (IntKind.wrap .i64 (x22+(1:Int)))) (R21 ())
def q300_J3 (K2:Sl→PT) (s20:Sl) (x29:Unit):PT :=
 K2 s20
def q300_J4 (K2:Sl→PT) (x19:Sl):PT :=
 req ((8:Int)≠0)<|mks z5 5 1 (quoI .i64 (IntKind.wrap .i64 ((x19.l:Int)+(7:Int))) (8:Int)) (quoI .i64 (IntKind.wrap .i64 ((x19.l:Int)+(7:Int))) (8:Int)) fun (s20:Sl)=>joinP (fun R21=>loopP (0:Int) (q300_L2 x19 s20 R21)) (q300_J3 K2 s20)
def q300 (s0:Sl) (s1:Sl) (K2:Sl→PT):PT :=
 nw [(.int .i64 (1:Int))] 3 fun (p3:Addr)=>nw z364 64 fun (p4:Addr)=>joinP (fun R5=>loopP (⟨(some p3),1,1⟩,(0:Int)) (q300_L1 s0 s1 p4 R5)) (q300_J4 K2)
def h300:Hint:=⟨(.n (.n (.n .e 15 ([(5,.c .S)],[]) .e) 63 ([],[9]) .e) 122 ([(5,.c .S),(16,.c (.I .i64))],[6,0,14,15]) (.n (.n .e 506 ([(43,.c (.I .i64))],[9,5,41,42]) .e) 7833 ([],[5,8,16,6,0,14,15]) .e)),.e⟩
theorem q300_eq (s0:Sl) (s1:Sl) (K2:Sl→PT):fnE Cx h300 [.c .S] Tryz.f10 [.v (.slice s0.a s0.l s0.c),.v (.slice s1.a s1.l s1.c)] K2=q300 s0 s1 K2:=by kernel_rfl
theorem q300_fnok:fnOk Tryz.f10 2=true:=by kernel_rfl
theorem q300_ok (s0:Sl) (s1:Sl) (K2:Sl→PT) {w:World} (h:q300 s0 s1 K2 w):Calls Tryz.prog 10 #[(.slice s0.a s0.l s0.c),(.slice s1.a s1.l s1.c)] w fun e w'=>∃r,e = .returned (resMk [.c .S] r)∧K2 r w' :=
 of_eq Tryz.func10 q300_fnok (by kernel_rfl) (by kernel_rfl) (q300_eq s0 s1 K2) h
def q56 (s0:Sl) (K1:(Option Addr×Value)→PT):PT :=
 nw z80 46 fun (p2:Addr)=>slcA 1 256 p2 none none none fun (s3:Sl)=>cpy 1 s3 s0 fun (n4:Int)=>nwA ⟨z94⟩ 60 fun (p5:Addr)=>callP Tryz.prog 19 #[(.pointer (some p5)),(.pointer (some p2))] [.c .V] fun (r6:Value)=>K1 ((some p5),r6)
def h56:Hint:=⟨.e,.e⟩
theorem q56_eq (s0:Sl) (K1:(Option Addr×Value)→PT):fnE Cx h56 [.c .P,.c .V] Tryz.f11 [.v (.slice s0.a s0.l s0.c)] K1=q56 s0 K1:=by kernel_rfl
theorem q56_fnok:fnOk Tryz.f11 1=true:=by kernel_rfl
theorem q56_ok (s0:Sl) (K1:(Option Addr×Value)→PT) {w:World} (h:q56 s0 K1 w):Calls Tryz.prog 11 #[(.slice s0.a s0.l s0.c)] w fun e w'=>∃r,e = .returned (resMk [.c .P,.c .V] r)∧K1 r w' :=
 of_eq Tryz.func11 q56_fnok (by kernel_rfl) (by kernel_rfl) (q56_eq s0 K1) h
def q51 (v0:Value) (K1:Int→PT):PT :=
 req (isIf v0=true)<|cnd (isNil v0) (K1 (0:Int)) (ld .V ⟨0,0,none⟩ fun (v2:Value)=>eqE Cx 38 v0 v2 fun (b3:Bool)=>cnd b3 (K1 (1:Int)) (ld .V ⟨1,0,none⟩ fun (v4:Value)=>eqE Cx 38 v0 v4 fun (b5:Bool)=>cnd b5 (K1 (2:Int)) (ld .V ⟨2,0,none⟩ fun (v6:Value)=>eqE Cx 38 v0 v6 fun (b7:Bool)=>cnd b7 (K1 (3:Int)) (K1 (4:Int)))))
def h51:Hint:=⟨.e,.e⟩
theorem q51_eq (v0:Value) (K1:Int→PT):fnE Cx h51 [.c (.I .i64)] Tryz.f12 [.v v0] K1=q51 v0 K1:=by kernel_rfl
theorem q51_fnok:fnOk Tryz.f12 1=true:=by kernel_rfl
theorem q51_ok (v0:Value) (K1:Int→PT) {w:World} (h:q51 v0 K1 w):Calls Tryz.prog 12 #[v0] w fun e w'=>∃r,e = .returned (resMk [.c (.I .i64)] r)∧K1 r w' :=
 of_eq Tryz.func12 q51_fnok (by kernel_rfl) (by kernel_rfl) (q51_eq v0 K1) h
def q46_J0 (p0:Addr) (s1:Sl) (K2:(Sl×Value)→PT) (n7:Int) (n8:Int) (x13:Sl):PT :=
 ld .S (Addr.add p0 256) fun (s14:Sl)=>slc 1 s14 none (some (0:Int)) none fun (s15:Sl)=>st (Addr.add p0 256) (.slice s15.a s15.l s15.c)<|ld (.I .u8) (Addr.add p0 269) fun (n16:Int)=>st (Addr.add p0 268) (.int .u8 n16)<|ld .S (Addr.add p0 270) fun (s17:Sl)=>st (Addr.add p0 265) (.int .u16 (IntKind.wrap .u16 (s17.l:Int)))<|ld .S (Addr.add p0 270) fun (s18:Sl)=>callP Tryz.prog 22 #[(.slice s18.a s18.l s18.c),(.pointer (some p0))] [.c .V] fun (r19:Value)=>req (isIf r19=true)<|cnd (!(isNil r19)) (st (Addr.add p0 256) (.slice x13.a x13.l x13.c)<|st (Addr.add p0 268) (.int .u8 n7)<|st (Addr.add p0 265) (.int .u16 n8)<|K2 (s1,r19)) (ld .S (Addr.add p0 256) fun (s20:Sl)=>app z5 5 1 s1 s20 fun (s21:Sl)=>st (Addr.add p0 256) (.slice x13.a x13.l x13.c)<|st (Addr.add p0 268) (.int .u8 n7)<|st (Addr.add p0 265) (.int .u16 n8)<|K2 (s21,.nilIface))
def q46 (p0:Addr) (s1:Sl) (K2:(Sl×Value)→PT):PT :=
 cnd (Option.isNone (some p0)) (callP Tryz.prog 20 #[(.string ⟨#[104,117,102,102,48,58,32,65,112,112,101,110,100,84,97,98,108,101,32,119,105,116,104,32,101,109,112,116,121,32,116,97,98,108,101]⟩)] [.c .V] fun (r3:Value)=>K2 (s1,r3)) (ld .S (Addr.add p0 270) fun (s4:Sl)=>cnd (decide ((s4.l:Int)=(0:Int))) (callP Tryz.prog 20 #[(.string ⟨#[104,117,102,102,48,58,32,65,112,112,101,110,100,84,97,98,108,101,32,119,105,116,104,32,101,109,112,116,121,32,116,97,98,108,101]⟩)] [.c .V] fun (r5:Value)=>K2 (s1,r5)) (ld .S (Addr.add p0 256) fun (s6:Sl)=>ld (.I .u8) (Addr.add p0 268) fun (n7:Int)=>ld (.I .u16) (Addr.add p0 265) fun (n8:Int)=>joinP (fun R9=>ld .P (Addr.add p0 278) fun (o10:Option Addr)=>cnd (Option.isNone o10) (callP Tryz.prog 21 #[(.pointer (some p0)),(.slice none 0 0)] [.c .P,.c .V] fun (r11:Option Addr×Value)=>req (isIf r11.2=true)<|cnd (!(isNil r11.2)) (K2 (s1,r11.2)) (ld .S (Addr.add p0 256) fun (s12:Sl)=>R9 s12)) (R9 s6)) (q46_J0 p0 s1 K2 n7 n8)))
def h46:Hint:=⟨(.n .e 63 ([(6,.c .S)],[0,7,8,1]) .e),.e⟩
theorem q46_eq (p0:Addr) (s1:Sl) (K2:(Sl×Value)→PT):fnE Cx h46 [.c .S,.c .V] Tryz.f13 [.pt p0,.v (.slice s1.a s1.l s1.c)] K2=q46 p0 s1 K2:=by kernel_rfl
theorem q46_fnok:fnOk Tryz.f13 2=true:=by kernel_rfl
theorem q46_ok (p0:Addr) (s1:Sl) (K2:(Sl×Value)→PT) {w:World} (h:q46 p0 s1 K2 w):Calls Tryz.prog 13 #[(.pointer (some p0)),(.slice s1.a s1.l s1.c)] w fun e w'=>∃r,e = .returned (resMk [.c .S,.c .V] r)∧K2 r w' :=
 of_eq Tryz.func13 q46_fnok (by kernel_rfl) (by kernel_rfl) (q46_eq p0 s1 K2) h
def q47 (s0:Sl) (K1:Sl→PT):PT :=
 nw [] 5 fun (p2:Addr)=>app z5 5 1 ⟨(some p2),0,0⟩ s0 fun (s3:Sl)=>K1 s3
def h47:Hint:=⟨.e,.e⟩
theorem q47_eq (s0:Sl) (K1:Sl→PT):fnE Cx h47 [.c .S] Tryz.f14 [.v (.slice s0.a s0.l s0.c)] K1=q47 s0 K1:=by kernel_rfl
theorem q47_fnok:fnOk Tryz.f14 1=true:=by kernel_rfl
theorem q47_ok (s0:Sl) (K1:Sl→PT) {w:World} (h:q47 s0 K1 w):Calls Tryz.prog 14 #[(.slice s0.a s0.l s0.c)] w fun e w'=>∃r,e = .returned (resMk [.c .S] r)∧K1 r w' :=
 of_eq Tryz.func14 q47_fnok (by kernel_rfl) (by kernel_rfl) (q47_eq s0 K1) h
def q50 (s0:Sl) (o1:Option Addr) (b2:Bool) (K3:(Sl×Bool×Value)→PT):PT :=
 cnd b2 (callP Tryz.prog 23 #[(.slice s0.a s0.l s0.c),(.pointer o1)] [.c .S,.c .B,.c .V] fun (r4:Sl×Bool×Value)=>K3 (r4.1,r4.2.1,r4.2.2)) (callP Tryz.prog 24 #[(.slice s0.a s0.l s0.c),(.pointer o1)] [.c .S,.c .B,.c .V] fun (r5:Sl×Bool×Value)=>K3 (r5.1,r5.2.1,r5.2.2))
def h50:Hint:=⟨.e,.e⟩
theorem q50_eq (s0:Sl) (o1:Option Addr) (b2:Bool) (K3:(Sl×Bool×Value)→PT):fnE Cx h50 [.c .S,.c .B,.c .V] Tryz.f15 [.v (.slice s0.a s0.l s0.c),.v (.pointer o1),.v (.bool b2)] K3=q50 s0 o1 b2 K3:=by kernel_rfl
theorem q50_fnok:fnOk Tryz.f15 3=true:=by kernel_rfl
theorem q50_ok (s0:Sl) (o1:Option Addr) (b2:Bool) (K3:(Sl×Bool×Value)→PT) {w:World} (h:q50 s0 o1 b2 K3 w):Calls Tryz.prog 15 #[(.slice s0.a s0.l s0.c),(.pointer o1),(.bool b2)] w fun e w'=>∃r,e = .returned (resMk [.c .S,.c .B,.c .V] r)∧K3 r w' :=
 of_eq Tryz.func15 q50_fnok (by kernel_rfl) (by kernel_rfl) (q50_eq s0 o1 b2 K3) h
def q43_J0 (x6:(Sl×Int)) (A7:(Sl×Int)→PT) (x11:Int):PT :=
 req ((16:Int)≠0)<|nw [(.int .i64 (Int.tmod x11 (16:Int)))] 3 fun (p12:Addr)=>app z3 3 8 x6.1 ⟨(some p12),1,1⟩ fun (s13:Sl)=>A7 (s13,(IntKind.wrap .i64 (x6.2+(1:Int))))
def q43_L1 (s0:Sl) (n3:Int) (R5:Sl→PT) (x6:Sl×Int) (A7:(Sl×Int)→PT):PT :=
 cnd (decide (x6.2<(IntKind.wrap .i64 ((IntKind.wrap .i64 n3)-(127:Int))))) (req ((2:Int)≠0)<|ixS 1 s0 (IntKind.wrap .i64 ((1:Int)+(quoI .i64 x6.2 (2:Int)))) fun (p8:Addr)=>ld (.I .u8) p8 fun (n9:Int)=>joinP (fun R10=>req ((2:Int)≠0)<|cnd (decide ((Int.tmod x6.2 (2:Int))=(0:Int))) (req ((16:Int)≠0)<|R10 (quoI .i64 (IntKind.wrap .i64 n9) (16:Int))) (R10 (IntKind.wrap .i64 n9))) (q43_J0 x6 A7)) (R5 x6.1)
def q43_J2 (K1:(Sl×Int×Bool)→PT) (n3:Int) (x14:Sl):PT :=
 req ((2:Int)≠0)<|K1 (x14,(IntKind.wrap .i64 ((1:Int)+(quoI .i64 (IntKind.wrap .i64 ((IntKind.wrap .i64 ((IntKind.wrap .i64 n3)-(127:Int)))+(1:Int))) (2:Int)))),true)
def q43_L3 (r19:Sl×Bool) (R20:Sl→PT) (x21:Sl×Int) (A22:(Sl×Int)→PT):PT :=
 cnd (decide (x21.2<(r19.1.l:Int))) (ixS 1 r19.1 x21.2 fun (p23:Addr)=>ld (.I .u8) p23 fun (n24:Int)=>nw [(.int .i64 (IntKind.wrap .i64 n24))] 3 fun (p25:Addr)=>app z3 3 8 x21.1 ⟨(some p25),1,1⟩ fun (s26:Sl)=>A22 (s26,(IntKind.wrap .i64 (x21.2+(1:Int))))) (R20 x21.1)
def q43_J4 (K1:(Sl×Int×Bool)→PT) (x15:(Int)) (r19:Sl×Bool) (x27:Sl):PT :=
 K1 (x27,(IntKind.wrap .i64 ((1:Int)+x15)),r19.2)
def q43_J5 (s0:Sl) (K1:(Sl×Int×Bool)→PT) (x15:Int):PT :=
 cnd (decide ((s0.l:Int)<(IntKind.wrap .i64 ((1:Int)+x15)))) (K1 (⟨none,0,0⟩,(0:Int),false)) (slc 1 s0 (some (1:Int)) (some (IntKind.wrap .i64 ((1:Int)+x15))) none fun (s16:Sl)=>callP Tryz.prog 25 #[(.slice s16.a s16.l s16.c)] [.c .S,.c (.I .i64),.c .S,.c .B] fun (r17:Sl×Int×Sl×Bool)=>cnd (!r17.2.2.2) (K1 (⟨none,0,0⟩,(0:Int),false)) (cnd (decide ((6:Int)<r17.2.1)) (K1 (⟨none,0,0⟩,(0:Int),false)) (callP Tryz.prog 26 #[(.slice r17.1.a r17.1.l r17.1.c),(.int .i64 r17.2.1)] [.c .S,.c .B] fun (r18:Sl×Bool)=>cnd (!r18.2) (K1 (⟨none,0,0⟩,(0:Int),false)) (callP Tryz.prog 27 #[(.slice r17.2.2.1.a r17.2.2.1.l r17.2.2.1.c),(.slice r18.1.a r18.1.l r18.1.c),(.int .i64 r17.2.1),(.int .i64 (255:Int))] [.c .S,.c .B] fun (r19:Sl×Bool)=>joinP (fun R20=>loopP (⟨none,0,0⟩,(0:Int)) (q43_L3 r19 R20)) (q43_J4 K1 x15 r19)))))
def q43_X6 (s0:Sl) (K1:(Sl×Int×Bool)→PT) (n3:Int) (R4:Int→PT):PT :=
 cnd (decide ((128:Int)≤(IntKind.wrap .i64 n3))) (req ((2:Int)≠0)<|cnd (decide ((s0.l:Int)<(IntKind.wrap .i64 ((1:Int)+(quoI .i64 (IntKind.wrap .i64 ((IntKind.wrap .i64 ((IntKind.wrap .i64 n3)-(127:Int)))+(1:Int))) (2:Int)))))) (K1 (⟨none,0,0⟩,(0:Int),false)) (joinP (fun R5=>loopP (⟨none,0,0⟩,(0:Int)) (q43_L1 s0 n3 R5)) (q43_J2 K1 n3))) (R4 (IntKind.wrap .i64 n3))
def q43 (s0:Sl) (K1:(Sl×Int×Bool)→PT):PT :=
 cnd (decide ((s0.l:Int)=(0:Int))) (K1 (⟨none,0,0⟩,(0:Int),false)) (ixS 1 s0 (0:Int) fun (p2:Addr)=>ld (.I .u8) p2 fun (n3:Int)=>joinP (q43_X6 s0 K1 n3) (q43_J5 s0 K1))
def h43:Hint:=⟨(.n (.n (.n .e 15 ([(5,.c (.I .i64))],[0]) .e) 983 ([(6,.c .S)],[5]) (.n .e 4095 ([(15,.c .S)],[5,12]) .e)) 7866 ([(6,.c .S),(37,.c (.I .i64))],[0,5,36]) (.n (.n .e 32762 ([(15,.c .S),(101,.c (.I .i64))],[99,5,12,100]) .e) 1006899 ([(8,.c (.I .i64))],[6,37,0,5,36]) .e)),.e⟩
theorem q43_eq (s0:Sl) (K1:(Sl×Int×Bool)→PT):fnE Cx h43 [.c .S,.c (.I .i64),.c .B] Tryz.f16 [.v (.slice s0.a s0.l s0.c)] K1=q43 s0 K1:=by kernel_rfl
theorem q43_fnok:fnOk Tryz.f16 1=true:=by kernel_rfl
theorem q43_ok (s0:Sl) (K1:(Sl×Int×Bool)→PT) {w:World} (h:q43 s0 K1 w):Calls Tryz.prog 16 #[(.slice s0.a s0.l s0.c)] w fun e w'=>∃r,e = .returned (resMk [.c .S,.c (.I .i64),.c .B] r)∧K1 r w' :=
 of_eq Tryz.func16 q43_fnok (by kernel_rfl) (by kernel_rfl) (q43_eq s0 K1) h
def q44_L0 (R2:Int→PT) (x3:Int×Int) (A4:(Int×Int)→PT):PT :=
 cnd (decide ((1:Int)<x3.1)) (req ((2:Int)≠0)<|A4 ((quoI .i64 x3.1 (2:Int)),(IntKind.wrap .i64 (x3.2+(1:Int))))) (R2 x3.2)
def q44_J1 (K1:Int→PT) (x5:Int):PT :=
 K1 x5
def q44 (n0:Int) (K1:Int→PT):PT :=
 joinP (fun R2=>loopP (n0,(0:Int)) (q44_L0 R2)) (q44_J1 K1)
def h44:Hint:=⟨(.n (.n .e 7 ([(3,.c (.I .i64))],[]) .e) 28 ([(0,.c (.I .i64)),(3,.c (.I .i64))],[]) .e),.e⟩
theorem q44_eq (n0:Int) (K1:Int→PT):fnE Cx h44 [.c (.I .i64)] Tryz.f17 [.v (.int .i64 n0)] K1=q44 n0 K1:=by kernel_rfl
theorem q44_fnok:fnOk Tryz.f17 1=true:=by kernel_rfl
theorem q44_ok (n0:Int) (K1:Int→PT) {w:World} (h:q44 n0 K1 w):Calls Tryz.prog 17 #[(.int .i64 n0)] w fun e w'=>∃r,e = .returned (resMk [.c (.I .i64)] r)∧K1 r w' :=
 of_eq Tryz.func17 q44_fnok (by kernel_rfl) (by kernel_rfl) (q44_eq n0 K1) h
def q53_L0 (p10:Addr) (R12:Sl→PT) (x14:Sl×Int) (A15:(Sl×Int)→PT):PT :=
 cnd (decide ((0:Int)≤x14.2)) (ld (.I .i64) (Addr.add p10 1) fun (n16:Int)=>req (0≤x14.2)<|nw [(.int .i64 (andI .i64 (shrI .i64 n16 x14.2) (1:Int)))] 3 fun (p17:Addr)=>app z3 3 8 x14.1 ⟨(some p17),1,1⟩ fun (s18:Sl)=>A15 (s18,(IntKind.wrap .i64 (x14.2-(1:Int))))) (R12 x14.1)
def q53_J1 (K2:Sl→PT) (x19:Sl):PT :=
 K2 x19
def q53_J2 (x5:(Int)) (A6:Int→PT) (x20:Unit):PT :=
 A6 (IntKind.wrap .i64 (x5+(1:Int)))
def q53_X3 (n1:Int) (K2:Sl→PT) (r4:Sl) (x5:(Int)) (R7:Unit→PT):PT :=
 ixS 3 r4 x5 fun (p8:Addr)=>ldL [(.I .i64),(.I .i64),(.I .i64)] p8 0 fun (r9:(Int×Int×Int))=>nw z155 82 fun (p10:Addr)=>stL p10 0 [(.int .i64 r9.1),(.int .i64 r9.2.1),(.int .i64 r9.2.2)]<|ld (.I .i64) p10 fun (n11:Int)=>cnd (!decide (n11=n1)) (R7 ()) (joinP (fun R12=>ld (.I .i64) (Addr.add p10 2) fun (n13:Int)=>loopP (⟨none,0,0⟩,(IntKind.wrap .i64 (n13-(1:Int)))) (q53_L0 p10 R12)) (q53_J1 K2))
def q53_L4 (n1:Int) (K2:Sl→PT) (R3:Unit→PT) (r4:Sl) (x5:Int) (A6:Int→PT):PT :=
 cnd (decide (x5<(r4.l:Int))) (joinP (q53_X3 n1 K2 r4 x5) (q53_J2 x5 A6)) (R3 ())
def q53_J5 (K2:Sl→PT) (x21:Unit):PT :=
 K2 ⟨none,0,0⟩
def q53 (s0:Sl) (n1:Int) (K2:Sl→PT):PT :=
 joinP (fun R3=>callP Tryz.prog 28 #[(.slice s0.a s0.l s0.c)] [.c .S] fun (r4:Sl)=>loopP (0:Int) (q53_L4 n1 K2 R3 r4)) (q53_J5 K2)
def h53:Hint:=⟨(.n (.n (.n .e 3 ([],[]) .e) 26 ([(12,.c (.I .i64))],[1,10,11]) .e) 211 ([],[12,1,10,11]) (.n (.n .e 6759 ([(7,.c .S)],[]) .e) 54074 ([(7,.c .S),(8,.c (.I .i64))],[6]) .e)),.e⟩
theorem q53_eq (s0:Sl) (n1:Int) (K2:Sl→PT):fnE Cx h53 [.c .S] Tryz.f18 [.v (.slice s0.a s0.l s0.c),.v (.int .i64 n1)] K2=q53 s0 n1 K2:=by kernel_rfl
theorem q53_fnok:fnOk Tryz.f18 2=true:=by kernel_rfl
theorem q53_ok (s0:Sl) (n1:Int) (K2:Sl→PT) {w:World} (h:q53 s0 n1 K2 w):Calls Tryz.prog 18 #[(.slice s0.a s0.l s0.c),(.int .i64 n1)] w fun e w'=>∃r,e = .returned (resMk [.c .S] r)∧K2 r w' :=
 of_eq Tryz.func18 q53_fnok (by kernel_rfl) (by kernel_rfl) (q53_eq s0 n1 K2) h
def q74_J0 (x12:(Int×Int×Int×Int)) (R14:Int×Int×Int→PT) (n15:Int) (x17:Int):PT :=
 cnd (!decide (n15=(0:Int))) (R14 ((IntKind.wrap .i64 (x12.1+(IntKind.wrap .i64 n15))),x17,(IntKind.wrap .u16 ((IntKind.wrap .u16 x12.2.2.2)+(1:Int))))) (R14 ((IntKind.wrap .i64 (x12.1+(IntKind.wrap .i64 n15))),x17,x12.2.2.1))
def q74_J1 (x12:(Int×Int×Int×Int)) (A13:(Int×Int×Int×Int)→PT) (x18:Int×Int×Int):PT :=
 A13 (x18.1,x18.2.1,x18.2.2,(IntKind.wrap .i64 (x12.2.2.2+(1:Int))))
def q74_L2 (R9:Int×Int×Int→PT) (c11:Array Value) (x12:Int×Int×Int×Int) (A13:(Int×Int×Int×Int)→PT):PT :=
 cnd (decide (x12.2.2.2<(256:Int))) (joinP (fun R14=>ixV (.I .u32) c11 256 x12.2.2.2 fun (n15:Int)=>joinP (fun R16=>cnd (decide (x12.2.1<(IntKind.wrap .i64 n15))) (R16 (IntKind.wrap .i64 n15)) (R16 x12.2.1)) (q74_J0 x12 R14 n15)) (q74_J1 x12 A13)) (R9 (x12.1,x12.2.1,x12.2.2.1))
def q74_L3 (x19:(Int×Int×Int)) (R24:Int→PT) (x25:Int) (A26:Int→PT):PT :=
 req (0≤x25)<|cnd (decide ((262143:Int)<(shrI .i64 x19.1 x25))) (A26 (IntKind.wrap .u64 (x25+(1:Int)))) (R24 x25)
def q74_J4 (r5:Option Addr×Value) (x31:(Int×Int×Int)) (R33:Int×Int→PT) (x36:Int):PT :=
 nz r5.1 fun (p37:Addr)=>ixA 1 256 p37 x31.2.2 fun (p38:Addr)=>st p38 (.int .u32 x36)<|cnd (decide (x31.2.1<(IntKind.wrap .i64 x36))) (R33 ((IntKind.wrap .i64 (x31.1+(IntKind.wrap .i64 x36))),(IntKind.wrap .i64 x36))) (R33 ((IntKind.wrap .i64 (x31.1+(IntKind.wrap .i64 x36))),x31.2.1))
def q74_J5 (x31:(Int×Int×Int)) (A32:(Int×Int×Int)→PT) (x39:Int×Int):PT :=
 A32 (x39.1,x39.2,(IntKind.wrap .i64 (x31.2.2+(1:Int))))
def q74_X6 (r5:Option Addr×Value) (x27:(Int)) (c30:Array Value) (x31:(Int×Int×Int)) (R33:(Int×Int)→PT):PT :=
 ixV (.I .u32) c30 256 x31.2.2 fun (n34:Int)=>cnd (decide (n34=(0:Int))) (R33 (x31.1,x31.2.1)) (req (0≤x27)<|joinP (fun R35=>cnd (decide ((shrI .u32 (IntKind.wrap .u32 (n34+(IntKind.wrap .u32 ((shlI .u32 (1:Int) x27)-(1:Int))))) x27)=(0:Int))) (R35 (1:Int)) (R35 (shrI .u32 (IntKind.wrap .u32 (n34+(IntKind.wrap .u32 ((shlI .u32 (1:Int) x27)-(1:Int))))) x27))) (q74_J4 r5 x31 R33))
def q74_L7 (r5:Option Addr×Value) (x27:(Int)) (R28:Int×Int→PT) (c30:Array Value) (x31:Int×Int×Int) (A32:(Int×Int×Int)→PT):PT :=
 cnd (decide (x31.2.2<(256:Int))) (joinP (q74_X6 r5 x27 c30 x31) (q74_J5 x31 A32)) (R28 (x31.1,x31.2.1))
def q74_J8 (K2:(Value)→PT) (R23:Int×Int→PT) (x40:Int×Int):PT :=
 cnd (decide (x40.2=x40.1)) (ld .V ⟨1,0,none⟩ fun (v41:Value)=>K2 v41) (R23 (x40.1,x40.2))
def q74_J9 (K2:(Value)→PT) (r5:Option Addr×Value) (R23:Int×Int→PT) (x27:Int):PT :=
 req (0≤x27)<|joinP (fun R28=>nz r5.1 fun (p29:Addr)=>ldA 256 p29 fun (c30:Array Value)=>loopP ((0:Int),(0:Int),(0:Int)) (q74_L7 r5 x27 R28 c30)) (q74_J8 K2 R23)
def q74_J10 (K2:(Value)→PT) (r5:Option Addr×Value) (x54:Unit):PT :=
 drw<|nz r5.1 fun (p55:Addr)=>ld .S (Addr.add p55 270) fun (s56:Sl)=>nz r5.1 fun (p57:Addr)=>ld .S (Addr.add p57 271) fun (s58:Sl)=>slc 2 s56 none (some (s58.l:Int)) none fun (s59:Sl)=>nz r5.1 fun (p60:Addr)=>st (Addr.add p60 270) (.slice s59.a s59.l s59.c)<|drw<|nz r5.1 fun (p61:Addr)=>ld .S (Addr.add p61 270) fun (s62:Sl)=>nz r5.1 fun (p63:Addr)=>ld .S (Addr.add p63 271) fun (s64:Sl)=>cpy 2 s62 s64 fun (n65:Int)=>nz r5.1 fun (p66:Addr)=>ld (.I .u8) (Addr.add p66 268) fun (n67:Int)=>nz r5.1 fun (p68:Addr)=>st (Addr.add p68 269) (.int .u8 n67)<|nz r5.1 fun (p69:Addr)=>st (Addr.add p69 267) (.bool true)<|nz r5.1 fun (p70:Addr)=>st (Addr.add p70 266) (.int .i64 (0:Int))<|K2 .nilIface
def q74_J11 (K2:(Value)→PT) (r5:Option Addr×Value) (x19:(Int×Int×Int)) (x42:Int×Int):PT :=
 nz r5.1 fun (p43:Addr)=>st (Addr.add p43 265) (.int .u16 x19.2.2)<|nz r5.1 fun (p44:Addr)=>st (Addr.add p44 266) (.int .i64 x42.2)<|nz r5.1 fun (p45:Addr)=>st (Addr.add p45 260) (.int .i64 x42.1)<|callP Tryz.prog 29 #[(.pointer r5.1)] [.c .V] fun (r46:Value)=>req (isIf r46=true)<|cnd (!(isNil r46)) (K2 r46) (joinP (fun R47=>drw<|nz r5.1 fun (p48:Addr)=>ld .S (Addr.add p48 270) fun (s49:Sl)=>nz r5.1 fun (p50:Addr)=>ld .S (Addr.add p50 271) fun (s51:Sl)=>cnd (decide ((s49.c:Int)<(s51.l:Int))) (mks z140 107 4 (0:Int) (256:Int) fun (s52:Sl)=>nz r5.1 fun (p53:Addr)=>st (Addr.add p53 270) (.slice s52.a s52.l s52.c)<|R47 ()) (R47 ())) (q74_J10 K2 r5))
def q74_J12 (K2:(Value)→PT) (r5:Option Addr×Value) (x19:Int×Int×Int):PT :=
 cnd (decide (x19.1=(0:Int))) (callP Tryz.prog 20 #[(.string ⟨#[104,117,102,102,48,58,32,101,109,112,116,121,32,104,105,115,116,111,103,114,97,109]⟩)] [.c .V] fun (r20:Value)=>K2 r20) (cnd (decide (x19.2.2<(2:Int))) (ld .V ⟨1,0,none⟩ fun (v21:Value)=>K2 v21) (cnd (decide (x19.2.1=x19.1)) (ld .V ⟨1,0,none⟩ fun (v22:Value)=>K2 v22) (joinP (fun R23=>cnd (decide ((262143:Int)<x19.1)) (joinP (fun R24=>loopP (0:Int) (q74_L3 x19 R24)) (q74_J9 K2 r5 R23)) (R23 (x19.1,x19.2.1))) (q74_J11 K2 r5 x19))))
def q74 (p0:Addr) (o1:Option Addr) (K2:(Value)→PT):PT :=
 cnd (Option.isNone (some p0)) (callP Tryz.prog 20 #[(.string ⟨#[104,117,102,102,48,58,32,66,117,105,108,100,67,84,97,98,108,101,32,111,110,32,110,105,108,32,83,99,114,97,116,99,104]⟩)] [.c .V] fun (r3:Value)=>K2 r3) (cnd (Option.isNone o1) (callP Tryz.prog 20 #[(.string ⟨#[104,117,102,102,48,58,32,110,105,108,32,99,111,117,110,116,32,112,97,115,115,101,100,32,116,111,32,66,117,105,108,100,67,84,97,98,108,101]⟩)] [.c .V] fun (r4:Value)=>K2 r4) (callP Tryz.prog 21 #[(.pointer (some p0)),(.slice none 0 0)] [.c .P,.c .V] fun (r5:Option Addr×Value)=>req (isIf r5.2=true)<|cnd (!(isNil r5.2)) (K2 r5.2) (nz o1 fun (p6:Addr)=>ldA 256 p6 fun (c7:Array Value)=>nz r5.1 fun (p8:Addr)=>stA 256 p8 c7<|joinP (fun R9=>nz r5.1 fun (p10:Addr)=>ldA 256 p10 fun (c11:Array Value)=>loopP ((0:Int),(0:Int),(0:Int),(0:Int)) (q74_L2 R9 c11)) (q74_J12 K2 r5))))
def h74:Hint:=⟨(.n (.n (.n (.n .e 1023 ([(6,.c (.I .i64)),(7,.c (.I .i64)),(8,.c (.I .u16))],[0]) .e) 8186 ([(6,.c (.I .i64)),(7,.c (.I .i64)),(8,.c (.I .u16)),(43,.c (.I .i64))],[42,0]) (.n .e 8191 ([(6,.c (.I .i64)),(7,.c (.I .i64))],[8,0]) .e)) 65491 ([(6,.c (.I .i64)),(7,.c (.I .i64)),(8,.c (.I .u16))],[43,42,0]) (.n (.n .e 131061 ([(11,.c (.I .u64))],[0,8]) .e) 262143 ([],[0]) .e)) 524244 ([(11,.c (.I .u64))],[0,8,6]) (.n (.n (.n .e 1047859 ([(7,.c (.I .i64))],[10,8,9,43,6,42,0]) .e) 1048495 ([(13,.c (.I .i64)),(14,.c (.I .i64))],[0,8]) .e) 8387962 ([(13,.c (.I .i64)),(14,.c (.I .i64)),(89,.c (.I .i64))],[12,11,0,88,8]) (.n (.n .e 67103699 ([(13,.c (.I .i64)),(14,.c (.I .i64))],[89,12,11,0,88,8]) .e) 2147318375 ([(17,.c (.I .u32))],[15,13,14,89,12,11,0,88,8]) .e))),.e⟩
theorem q74_eq (p0:Addr) (o1:Option Addr) (K2:(Value)→PT):fnE Cx h74 [.c .V] Tryz.f19 [.pt p0,.v (.pointer o1)] K2=q74 p0 o1 K2:=by kernel_rfl
theorem q74_fnok:fnOk Tryz.f19 2=true:=by kernel_rfl
theorem q74_ok (p0:Addr) (o1:Option Addr) (K2:(Value)→PT) {w:World} (h:q74 p0 o1 K2 w):Calls Tryz.prog 19 #[(.pointer (some p0)),(.pointer o1)] w fun e w'=>∃r,e = .returned (resMk [.c .V] r)∧K2 r w' :=
 of_eq Tryz.func19 q74_fnok (by kernel_rfl) (by kernel_rfl) (q74_eq p0 o1 K2) h
def q62 (t0:ByteArray) (K1:(Value)→PT):PT :=
 nw [(.string t0)] 87 fun (p2:Addr)=>K1 (.iface 85 (.pointer (some p2)))
def h62:Hint:=⟨.e,.e⟩
theorem q62_eq (t0:ByteArray) (K1:(Value)→PT):fnE Cx h62 [.c .V] Tryz.f20 [.v (.string t0)] K1=q62 t0 K1:=by kernel_rfl
theorem q62_fnok:fnOk Tryz.f20 1=true:=by kernel_rfl
theorem q62_ok (t0:ByteArray) (K1:(Value)→PT) {w:World} (h:q62 t0 K1 w):Calls Tryz.prog 20 #[(.string t0)] w fun e w'=>∃r,e = .returned (resMk [.c .V] r)∧K1 r w' :=
 of_eq Tryz.func20 q62_fnok (by kernel_rfl) (by kernel_rfl) (q62_eq t0 K1) h
def q61_L0 (x6:(Addr)) (R24:Unit→PT) (x25:Int) (A26:Int→PT):PT :=
 cnd (decide (x25<(256:Int))) (ixA 1 256 x6 x25 fun (p27:Addr)=>st p27 (.int .u32 (0:Int))<|A26 (IntKind.wrap .i64 (x25+(1:Int)))) (R24 ())
def q61_J1 (x6:(Addr)) (R21:Unit→PT) (x28:Unit):PT :=
 st (Addr.add x6 267) (.bool false)<|R21 ()
def q61_J2 (s1:Sl) (K2:(Option Addr×Value)→PT) (x6:(Addr)) (x45:Unit):PT :=
 st (Addr.add x6 260) (.int .i64 (s1.l:Int))<|K2 ((some x6),.nilIface)
def q61_J3 (s1:Sl) (K2:(Option Addr×Value)→PT) (x6:(Addr)) (x39:Unit):PT :=
 ld .S (Addr.add x6 273) fun (s40:Sl)=>slc 1 s40 none (some (0:Int)) none fun (s41:Sl)=>st (Addr.add x6 273) (.slice s41.a s41.l s41.c)<|joinP (fun R42=>ld .P (Addr.add x6 278) fun (o43:Option Addr)=>cnd (Option.isNone o43) (nwA ⟨z134⟩ 103 fun (p44:Addr)=>st (Addr.add x6 278) (.pointer (some p44))<|R42 ()) (R42 ())) (q61_J2 s1 K2 x6)
def q61_J4 (s1:Sl) (K2:(Option Addr×Value)→PT) (x6:(Addr)) (x33:Unit):PT :=
 ld .S (Addr.add x6 256) fun (s34:Sl)=>slc 1 s34 none (some (0:Int)) none fun (s35:Sl)=>st (Addr.add x6 256) (.slice s35.a s35.l s35.c)<|st (Addr.add x6 257) (.slice none 0 0)<|st (Addr.add x6 258) (.slice none 0 0)<|joinP (fun R36=>ld .S (Addr.add x6 273) fun (s37:Sl)=>cnd (decide ((s37.c:Int)<(513:Int))) (mks z196 122 8 (0:Int) (513:Int) fun (s38:Sl)=>st (Addr.add x6 273) (.slice s38.a s38.l s38.c)<|R36 ()) (R36 ())) (q61_J3 s1 K2 x6)
def q61_J5 (s1:Sl) (K2:(Option Addr×Value)→PT) (x6:(Addr)) (x29:Unit):PT :=
 joinP (fun R30=>ld .S (Addr.add x6 256) fun (s31:Sl)=>cnd (decide ((s31.c:Int)=(0:Int))) (mks z5 5 1 (0:Int) (s1.l:Int) fun (s32:Sl)=>st (Addr.add x6 256) (.slice s32.a s32.l s32.c)<|R30 ()) (R30 ())) (q61_J4 s1 K2 x6)
def q61_J6 (s1:Sl) (K2:(Option Addr×Value)→PT) (x6:(Addr)) (x20:Unit):PT :=
 joinP (fun R21=>ld .B (Addr.add x6 267) fun (b22:Bool)=>cnd b22 (ld (.I .i64) (Addr.add x6 266) fun (n23:Int)=>cnd (decide (n23=(0:Int))) (joinP (fun R24=>loopP (0:Int) (q61_L0 x6 R24)) (q61_J1 x6 R21)) (R21 ())) (R21 ())) (q61_J5 s1 K2 x6)
def q61_J7 (s1:Sl) (K2:(Option Addr×Value)→PT) (x6:(Addr)) (x12:Unit):PT :=
 ld (.I .u8) (Addr.add x6 262) fun (n13:Int)=>cnd (decide ((11:Int)<n13)) (callP Tryz.prog 20 #[(.string ⟨#[105,110,118,97,108,105,100,32,116,97,98,108,101,76,111,103,32,45]⟩)] [.c .V] fun (r14:Value)=>K2 ((none:Option Addr),r14)) (ld (.I .u8) (Addr.add x6 262) fun (n15:Int)=>cnd (decide (n15<(5:Int))) (callP Tryz.prog 20 #[(.string ⟨#[105,110,118,97,108,105,100,32,116,97,98,108,101,76,111,103,32,45]⟩)] [.c .V] fun (r16:Value)=>K2 ((none:Option Addr),r16)) (joinP (fun R17=>ld (.I .i64) (Addr.add x6 259) fun (n18:Int)=>cnd (decide (n18≤(0:Int))) (st (Addr.add x6 259) (.int .i64 (262143:Int))<|R17 ()) (ld (.I .i64) (Addr.add x6 259) fun (n19:Int)=>cnd (decide ((262143:Int)<n19)) (st (Addr.add x6 259) (.int .i64 (262143:Int))<|R17 ()) (R17 ()))) (q61_J6 s1 K2 x6)))
def q61_J8 (s1:Sl) (K2:(Option Addr×Value)→PT) (x6:(Addr)) (x9:Unit):PT :=
 joinP (fun R10=>ld (.I .u8) (Addr.add x6 262) fun (n11:Int)=>cnd (decide (n11=(0:Int))) (st (Addr.add x6 262) (.int .u8 (11:Int))<|R10 ()) (R10 ())) (q61_J7 s1 K2 x6)
def q61_J9 (s1:Sl) (K2:(Option Addr×Value)→PT) (x6:Addr):PT :=
 joinP (fun R7=>ld (.I .u8) (Addr.add x6 261) fun (n8:Int)=>cnd (decide (n8=(0:Int))) (st (Addr.add x6 261) (.int .u8 (255:Int))<|R7 ()) (R7 ())) (q61_J8 s1 K2 x6)
def q61 (p0:Addr) (s1:Sl) (K2:(Option Addr×Value)→PT):PT :=
 cnd (decide ((262143:Int)<(s1.l:Int))) (drw<|ld .V ⟨2,0,none⟩ fun (v3:Value)=>K2 ((none:Option Addr),v3)) (joinP (fun R4=>cnd (Option.isNone (some p0)) (nwA ⟨z94⟩ 60 fun (p5:Addr)=>R4 p5) (R4 p0)) (q61_J9 s1 K2))
def h61:Hint:=⟨(.n (.n (.n (.n .e 7 ([(0,.q)],[1]) .e) 15 ([],[1,0]) .e) 31 ([],[1,0]) (.n (.n .e 127 ([],[0,1]) .e) 255 ([],[1,0]) .e)) 511 ([],[1,0]) (.n (.n (.n .e 2042 ([],[1,0]) .e) 8191 ([],[1,0]) .e) 16338 ([(70,.c (.I .i64))],[0,1]) (.n .e 32767 ([],[1,0]) .e))),.e⟩
theorem q61_eq (p0:Addr) (s1:Sl) (K2:(Option Addr×Value)→PT):fnE Cx h61 [.c .P,.c .V] Tryz.f21 [.pt p0,.v (.slice s1.a s1.l s1.c)] K2=q61 p0 s1 K2:=by kernel_rfl
theorem q61_fnok:fnOk Tryz.f21 2=true:=by kernel_rfl
theorem q61_ok (p0:Addr) (s1:Sl) (K2:(Option Addr×Value)→PT) {w:World} (h:q61 p0 s1 K2 w):Calls Tryz.prog 21 #[(.pointer (some p0)),(.slice s1.a s1.l s1.c)] w fun e w'=>∃r,e = .returned (resMk [.c .P,.c .V] r)∧K2 r w' :=
 of_eq Tryz.func21 q61_fnok (by kernel_rfl) (by kernel_rfl) (q61_eq p0 s1 K2) h
end Go.Sx
