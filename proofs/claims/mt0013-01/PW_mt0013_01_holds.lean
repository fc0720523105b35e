import PyProof.Rows.All
import Wide.All
import OpenK.AllK
import Wide.FinOn
import PySem.Challenge.RW_mt0013_01
set_option Elab.async false
set_option linter.all false

section
open PySem PySem.W PyProof.Rows
set_option maxRecDepth 100000
set_option maxHeartbeats 0
namespace Mine
noncomputable def anyF (as : Array Nat) (p : Nat → Bool) (start stop : Nat) : Bool :=
  @Bool.rec (fun _ => Bool) false (Array.any as p start stop) (R.anyR as.toList p)
theorem anyF_eq : @Array.any Nat = anyF := by
  funext as p start stop
  unfold anyF
  rw [← R.anyR_eq]
  cases h : List.any as.toList p with
  | true => rfl
  | false =>
    show Array.any as p start stop = false
    have h' : ∀ x ∈ as.toList, p x = false := by
      intro x hx
      have := List.any_eq_false.mp h x hx
      simpa using this
    rw [← Bool.not_eq_true, Array.any_iff_exists]
    rintro ⟨i, hi, _, _, hp⟩
    rw [h' _ (by simp)] at hp
    cases hp
noncomputable abbrev TN : Builtin := PySem.W.Fast.tw4202317264376624991
noncomputable abbrev TT : String → Option Builtin := PySem.W.Fast.tw14364793385576792824
noncomputable def cN : Nat := PySem.W.Fast.tw13482112738370960269 "type.__new__"
noncomputable def tabF (f : Builtin) (id : String) : Option Builtin :=
  @Bool.rec (fun _ => Option Builtin) (TT id) (some f) (Nat.beq (PySem.W.Fast.tw13482112738370960269 id) cN)
theorem tn_at : PySem.W.Fast.tw1115789885857029328.find cN = some TN := by kernel_rfl
theorem tabF_eq : TT = tabF TN := by
  funext id
  unfold tabF
  cases h : Nat.beq (PySem.W.Fast.tw13482112738370960269 id) cN with
  | false => rfl
  | true =>
    have e := Nat.eq_of_beq_eq_true h
    show PySem.W.Fast.tw1115789885857029328.find (PySem.W.Fast.tw13482112738370960269 id) = some TN
    rw [e]; exact tn_at
@[reducible] noncomputable def top0 : List Stmt := PySem.Challenge.pw_mt0013_01.main.body
noncomputable def cls (i : Nat) : List Stmt := match top0.drop i with
  | .ClassDef _ _ _ b _ _ _ _ _ _ _ :: _ => b
  | _ => []
noncomputable def nth (l : List Stmt) (j : Nat) : Stmt := match l.drop j with
  | s :: _ => s
  | [] => .Pass ⟨0, 0, 0, 0⟩
noncomputable def fArgs : Stmt → Arguments
  | .FunctionDef _ a _ _ _ _ _ _ _ _ => a
  | _ => ⟨[], [], none, [], [], none, []⟩
noncomputable def fBody : Stmt → List Stmt
  | .FunctionDef _ _ b _ _ _ _ _ _ _ => b
  | _ => []
noncomputable def fScope : Stmt → Scope
  | .FunctionDef _ _ _ _ _ _ s _ _ _ => s
  | _ => { kind := .function, names := [], isGenerator := false, isCoroutine := false, more := [] }
noncomputable def docIn : List Stmt → Str
  | .Expr (.Constant (.str x) _ _) _ :: _ => x
  | _ => Str.ofString ""
noncomputable def fDoc (s : Stmt) : Str := docIn (fBody s)
noncomputable def cDoc (i : Nat) : Str := docIn (cls i)
noncomputable def A82 : Arguments := fArgs (nth (cls 3) 4)
noncomputable def B82 : List Stmt := fBody (nth (cls 3) 4)
noncomputable def S82 : Scope := fScope (nth (cls 3) 4)
noncomputable def D82 : Str := fDoc (nth (cls 3) 4)
noncomputable def A89 : Arguments := fArgs (nth (cls 3) 5)
noncomputable def B89 : List Stmt := fBody (nth (cls 3) 5)
noncomputable def S89 : Scope := fScope (nth (cls 3) 5)
noncomputable def D89 : Str := fDoc (nth (cls 3) 5)
noncomputable def A160 : Arguments := fArgs (nth (cls 5) 1)
noncomputable def B160 : List Stmt := fBody (nth (cls 5) 1)
noncomputable def S160 : Scope := fScope (nth (cls 5) 1)
noncomputable def D160 : Str := fDoc (nth (cls 5) 1)
noncomputable def A167 : Arguments := fArgs (nth (cls 5) 2)
noncomputable def B167 : List Stmt := fBody (nth (cls 5) 2)
noncomputable def S167 : Scope := fScope (nth (cls 5) 2)
noncomputable def D167 : Str := fDoc (nth (cls 5) 2)
noncomputable def A174 : Arguments := fArgs (nth (cls 5) 3)
noncomputable def B174 : List Stmt := fBody (nth (cls 5) 3)
noncomputable def S174 : Scope := fScope (nth (cls 5) 3)
noncomputable def D174 : Str := fDoc (nth (cls 5) 3)
noncomputable def A181 : Arguments := fArgs (nth (cls 5) 4)
noncomputable def B181 : List Stmt := fBody (nth (cls 5) 4)
noncomputable def S181 : Scope := fScope (nth (cls 5) 4)
noncomputable def D181 : Str := fDoc (nth (cls 5) 4)
noncomputable def A188 : Arguments := fArgs (nth (cls 5) 5)
noncomputable def B188 : List Stmt := fBody (nth (cls 5) 5)
noncomputable def S188 : Scope := fScope (nth (cls 5) 5)
noncomputable def A196 : Arguments := fArgs (nth (cls 5) 6)
noncomputable def B196 : List Stmt := fBody (nth (cls 5) 6)
noncomputable def S196 : Scope := fScope (nth (cls 5) 6)
noncomputable def D196 : Str := fDoc (nth (cls 5) 6)
noncomputable def A203 : Arguments := fArgs (nth (cls 5) 7)
noncomputable def B203 : List Stmt := fBody (nth (cls 5) 7)
noncomputable def S203 : Scope := fScope (nth (cls 5) 7)
noncomputable def D203 : Str := fDoc (nth (cls 5) 7)
noncomputable def A210 : Arguments := fArgs (nth (cls 5) 8)
noncomputable def B210 : List Stmt := fBody (nth (cls 5) 8)
noncomputable def S210 : Scope := fScope (nth (cls 5) 8)
noncomputable def D210 : Str := fDoc (nth (cls 5) 8)
noncomputable def A253 : Arguments := fArgs (nth top0 7)
noncomputable def B253 : List Stmt := fBody (nth top0 7)
noncomputable def S253 : Scope := fScope (nth top0 7)
noncomputable def fstT (s : Str) (_ : True) : Str := s
theorem docOf {l : List Stmt} {x : Str} {a b c} {r : List Stmt} (_ : l = .Expr (.Constant (.str x) a b) c :: r) : True := trivial
/-- the long docstring of the program's class, as it stands there -/
noncomputable def clsDoc : Str := by
  refine fstT ?s ?p
  case p =>
    refine' docOf (l := cls 5) (x := ?s) ?h
    case h =>
      conv => lhs; whnf
lay_quick Mine.clsDoc
noncomputable abbrev docQ : Str := PySem.W.Fast.tw864061201876142717
noncomputable def D242 : Str := docQ
noncomputable abbrev kE (P : Params) (n : String) (t : Nat) (v : Value) : DictEntry := ⟨PyData.keyHash P (Str.ofString n), .str (Str.ofString n) t, v⟩
noncomputable abbrev vS (n : String) (t : Nat) : Value := .str (Str.ofString n) t
noncomputable def o2 (_ : Params) : Obj := (Obj.mk Value.none none (Data.dict #[] 0) #[])
noncomputable def o3 (P : Params) : Obj := (Obj.mk (Value.type "dict") none (Data.dict #[(kE P "__name__" 165 (vS "law_mt0013_01" 583)), (kE P "__doc__" 166 Value.none), (kE P "__package__" 167 Value.none), (kE P "__loader__" 168 (Value.builtin "__main__.__loader__#opaque")), (kE P "__spec__" 169 Value.none), (kE P "__annotations__" 170 (Value.ref 6)), (kE P "__builtins__" 171 (Value.ref 4)), (kE P "__file__" 173 (vS "/claim/cut.py" 172)), (kE P "__cached__" 174 Value.none), (kE P "_wall" 193 (Value.ref 21)), (kE P "_tuplegetter" 252 (Value.ref 60)), (kE P "Match" 380 (Value.ref 135)), (kE P "_calculate_ratio" 388 (Value.ref 145)), (kE P "SequenceMatcher" 582 (Value.ref 242)), (kE P "law" 604 (Value.ref 253))] 15) #[])
noncomputable def o15 (_ : Params) : Obj := (Obj.mk (Value.type "tuple") none (Data.seq #[] 0) #[])
noncomputable def o17 (_ : Params) : Obj := (Obj.mk (Value.type "tuple") none (Data.seq #[(vS "k" 190)] 0) #[])
noncomputable def o18 (_ : Params) : Obj := (Obj.mk (Value.type "tuple") none (Data.seq #[] 0) #[])
noncomputable def o20 (_ : Params) : Obj := (Obj.mk (Value.type "code") none (Data.fields #[(vS "_wall" 187), (vS "_wall" 188), (vS "/claim/cut.py" 189), (Value.int 1 0), (Value.int 1 0), (Value.int 0 0), (Value.int 0 0), (Value.int 3 0), (Value.ref 15), (Value.bool Bool.true), (Value.int 181 0), (Value.ref 16), Value.none, (Value.ref 17), (Value.ref 18), (Value.ref 19), (Value.int 191 0), (Value.int 1 0), (vS "/claim/cut.py" 192)]) #[])
noncomputable def o29 (_ : Params) : Obj := (Obj.mk (Value.type "tuple") none (Data.seq #[] 0) #[])
noncomputable def o31 (_ : Params) : Obj := (Obj.mk (Value.type "tuple") none (Data.seq #[(vS "self" 211), (vS "index" 212), (vS "doc" 213)] 0) #[])
noncomputable def o32 (_ : Params) : Obj := (Obj.mk (Value.type "tuple") none (Data.seq #[] 0) #[])
noncomputable def o34 (_ : Params) : Obj := (Obj.mk (Value.type "code") none (Data.fields #[(vS "__init__" 208), (vS "_tuplegetter.__init__" 209), (vS "/claim/cut.py" 210), (Value.int 7 0), (Value.int 3 0), (Value.int 0 0), (Value.int 0 0), (Value.int 3 0), (Value.ref 29), (Value.bool Bool.true), (Value.int 181 0), (Value.ref 30), Value.none, (Value.ref 31), (Value.ref 32), (Value.ref 33), (Value.int 214 0), (Value.int 7 0), (vS "/claim/cut.py" 215)]) #[])
noncomputable def o36 (_ : Params) : Obj := (Obj.mk (Value.type "tuple") none (Data.seq #[Value.none] 0) #[])
noncomputable def o37 (_ : Params) : Obj := (Obj.mk (Value.type "tuple") none (Data.seq #[] 0) #[])
noncomputable def o39 (_ : Params) : Obj := (Obj.mk (Value.type "tuple") none (Data.seq #[(vS "self" 220), (vS "obj" 221), (vS "objtype" 222)] 0) #[])
noncomputable def o40 (_ : Params) : Obj := (Obj.mk (Value.type "tuple") none (Data.seq #[] 0) #[])
noncomputable def o42 (_ : Params) : Obj := (Obj.mk (Value.type "code") none (Data.fields #[(vS "__get__" 217), (vS "_tuplegetter.__get__" 218), (vS "/claim/cut.py" 219), (Value.int 11 0), (Value.int 3 0), (Value.int 0 0), (Value.int 0 0), (Value.int 3 0), (Value.ref 37), (Value.bool Bool.true), (Value.int 181 0), (Value.ref 38), Value.none, (Value.ref 39), (Value.ref 40), (Value.ref 41), (Value.int 223 0), (Value.int 11 0), (vS "/claim/cut.py" 224)]) #[])
noncomputable def o44 (_ : Params) : Obj := (Obj.mk (Value.type "tuple") none (Data.seq #[] 0) #[])
noncomputable def o46 (_ : Params) : Obj := (Obj.mk (Value.type "tuple") none (Data.seq #[(vS "self" 229), (vS "obj" 230), (vS "value" 231)] 0) #[])
noncomputable def o47 (_ : Params) : Obj := (Obj.mk (Value.type "tuple") none (Data.seq #[] 0) #[])
noncomputable def o49 (_ : Params) : Obj := (Obj.mk (Value.type "code") none (Data.fields #[(vS "__set__" 226), (vS "_tuplegetter.__set__" 227), (vS "/claim/cut.py" 228), (Value.int 18 0), (Value.int 3 0), (Value.int 0 0), (Value.int 0 0), (Value.int 3 0), (Value.ref 44), (Value.bool Bool.true), (Value.int 181 0), (Value.ref 45), Value.none, (Value.ref 46), (Value.ref 47), (Value.ref 48), (Value.int 232 0), (Value.int 18 0), (vS "/claim/cut.py" 233)]) #[])
noncomputable def o51 (_ : Params) : Obj := (Obj.mk (Value.type "tuple") none (Data.seq #[] 0) #[])
noncomputable def o53 (_ : Params) : Obj := (Obj.mk (Value.type "tuple") none (Data.seq #[(vS "self" 238), (vS "obj" 239)] 0) #[])
noncomputable def o54 (_ : Params) : Obj := (Obj.mk (Value.type "tuple") none (Data.seq #[] 0) #[])
noncomputable def o56 (_ : Params) : Obj := (Obj.mk (Value.type "code") none (Data.fields #[(vS "__delete__" 235), (vS "_tuplegetter.__delete__" 236), (vS "/claim/cut.py" 237), (Value.int 21 0), (Value.int 2 0), (Value.int 0 0), (Value.int 0 0), (Value.int 3 0), (Value.ref 51), (Value.bool Bool.true), (Value.int 181 0), (Value.ref 52), Value.none, (Value.ref 53), (Value.ref 54), (Value.ref 55), (Value.int 240 0), (Value.int 21 0), (vS "/claim/cut.py" 241)]) #[])
noncomputable def o58 (_ : Params) : Obj := (Obj.mk (Value.type "tuple") none (Data.seq #[(vS "__doc__" 243), (vS "index" 244)] 0) #[])
noncomputable def o59 (P : Params) : Obj := (Obj.mk (Value.type "dict") none (Data.dict #[(kE P "__module__" 203 (vS "cpy313.difflib" 194)), (kE P "__firstlineno__" 207 (Value.int 5 206)), (kE P "__init__" 216 (Value.ref 35)), (kE P "__get__" 225 (Value.ref 43)), (kE P "__set__" 234 (Value.ref 50)), (kE P "__delete__" 242 (Value.ref 57)), (kE P "__static_attributes__" 245 (Value.ref 58)), (kE P "__dict__" 247 (Value.ref 61)), (kE P "__weakref__" 249 (Value.ref 62)), (kE P "__doc__" 250 Value.none)] 4) #[])
noncomputable def o60 (_ : Params) : Obj := (Obj.mk (Value.type "type") none (Data.cls (ClassData.mk (Str.ofString "_tuplegetter") [(Value.type "object")] [(Value.ref 60), (Value.type "object")] 59 (Str.ofString "_tuplegetter") Bool.true [] [] Bool.false none Bool.false)) #[none, none, (some (vS "_tuplegetter" 196)), (some (vS "_tuplegetter" 204)), (some (Value.builtin "object.__new__")), (some (Value.bool Bool.true))])
noncomputable def o61 (_ : Params) : Obj := (Obj.mk (Value.type "getset_descriptor") none (Data.fields #[(vS "__dict__" 246), (Value.ref 60), (Value.builtin "function.__dict__"), (Value.builtin "function.__dict__#set")]) #[])
noncomputable def o62 (_ : Params) : Obj := (Obj.mk (Value.type "getset_descriptor") none (Data.fields #[(vS "__weakref__" 248), (Value.ref 60), (Value.builtin "ExceptionGroup.__weakref__"), Value.none]) #[])
noncomputable def o65 (_ : Params) : Obj := (Obj.mk (Value.type "tuple") none (Data.seq #[(Value.type "tuple")] 0) #[])
noncomputable def o68 (_ : Params) : Obj := (Obj.mk (Value.type "cell") none (Data.cell (some (Value.ref 135))) #[])
noncomputable def o73 (_ : Params) : Obj := (Obj.mk (Value.type "tuple") none (Data.seq #[] 0) #[])
noncomputable def o74 (_ : Params) : Obj := (Obj.mk (Value.type "tuple") none (Data.seq #[(vS "a" 269), (vS "b" 270), (vS "size" 271)] 0) #[])
noncomputable def o75 (_ : Params) : Obj := (Obj.mk (Value.type "dict") none (Data.dict #[] 0) #[])
noncomputable def o76 (_ : Params) : Obj := (Obj.mk (Value.type "tuple") none (Data.seq #[] 0) #[])
noncomputable def o78 (_ : Params) : Obj := (Obj.mk (Value.type "tuple") none (Data.seq #[(vS "_cls" 277), (vS "a" 278), (vS "b" 279), (vS "size" 280)] 0) #[])
noncomputable def o79 (_ : Params) : Obj := (Obj.mk (Value.type "tuple") none (Data.seq #[] 0) #[])
noncomputable def o81 (_ : Params) : Obj := (Obj.mk (Value.type "code") none (Data.fields #[(vS "__new__" 274), (vS "Match.__new__" 275), (vS "/claim/cut.py" 276), (Value.int 29 0), (Value.int 4 0), (Value.int 0 0), (Value.int 0 0), (Value.int 3 0), (Value.ref 76), (Value.bool Bool.true), (Value.int 181 0), (Value.ref 77), Value.none, (Value.ref 78), (Value.ref 79), (Value.ref 80), (Value.int 281 0), (Value.int 29 0), (vS "/claim/cut.py" 282)]) #[])
noncomputable def o82 (_ : Params) : Obj := (Obj.mk (Value.type "function") none (Data.func (FuncData.mk (Str.ofString "__new__") (Str.ofString "Match.__new__") A82 (.stmts B82) S82 3 [] Value.none Value.none (.str D82 283) (vS "cpy313.difflib" 194) none (Value.ref 81) Value.none 0)) #[])
noncomputable def o83 (_ : Params) : Obj := (Obj.mk (Value.type "tuple") none (Data.seq #[] 0) #[])
noncomputable def o85 (_ : Params) : Obj := (Obj.mk (Value.type "tuple") none (Data.seq #[(vS "cls" 288), (vS "iterable" 289), (vS "result" 290)] 0) #[])
noncomputable def o86 (_ : Params) : Obj := (Obj.mk (Value.type "tuple") none (Data.seq #[] 0) #[])
noncomputable def o88 (_ : Params) : Obj := (Obj.mk (Value.type "code") none (Data.fields #[(vS "_make" 285), (vS "Match._make" 286), (vS "/claim/cut.py" 287), (Value.int 33 0), (Value.int 2 0), (Value.int 0 0), (Value.int 0 0), (Value.int 3 0), (Value.ref 83), (Value.bool Bool.true), (Value.int 181 0), (Value.ref 84), Value.none, (Value.ref 85), (Value.ref 86), (Value.ref 87), (Value.int 291 0), (Value.int 33 0), (vS "/claim/cut.py" 292)]) #[])
noncomputable def o89 (_ : Params) : Obj := (Obj.mk (Value.type "function") none (Data.func (FuncData.mk (Str.ofString "_make") (Str.ofString "Match._make") A89 (.stmts B89) S89 3 [] Value.none Value.none (.str D89 293) (vS "cpy313.difflib" 194) (some 92) (Value.ref 88) Value.none 0)) #[])
noncomputable def o90 (P : Params) : Obj := (Obj.mk (Value.type "dict") none (Data.dict #[(kE P "__module__" 295 (vS "cpy313.difflib" 194)), (kE P "__name__" 298 (vS "_make" 297)), (kE P "__qualname__" 301 (vS "Match._make" 300)), (kE P "__doc__" 303 (vS "Make a new Match object from a sequence or iterable" 293)), (kE P "__annotations__" 305 (Value.ref 92))] 5) #[])
noncomputable def o91 (_ : Params) : Obj := (Obj.mk (Value.type "classmethod") (some 90) (Data.fields #[(Value.ref 89), (Value.bool Bool.false)]) #[])
noncomputable def o92 (_ : Params) : Obj := (Obj.mk (Value.type "dict") none (Data.dict #[] 0) #[])
noncomputable def o93 (_ : Params) : Obj := (Obj.mk (Value.type "tuple") none (Data.seq #[(Value.ref 68)] 0) #[])
noncomputable def o94 (_ : Params) : Obj := (Obj.mk (Value.type "tuple") none (Data.seq #[(vS "__class__" 310)] 0) #[])
noncomputable def o96 (_ : Params) : Obj := (Obj.mk (Value.type "tuple") none (Data.seq #[(vS "self" 311), (vS "kwds" 312), (vS "result" 313)] 0) #[])
noncomputable def o97 (_ : Params) : Obj := (Obj.mk (Value.type "tuple") none (Data.seq #[] 0) #[])
noncomputable def o99 (_ : Params) : Obj := (Obj.mk (Value.type "code") none (Data.fields #[(vS "_replace" 307), (vS "Match._replace" 308), (vS "/claim/cut.py" 309), (Value.int 41 0), (Value.int 1 0), (Value.int 1 0), (Value.int 0 0), (Value.int 11 0), (Value.ref 94), (Value.bool Bool.true), (Value.int 181 0), (Value.ref 95), Value.none, (Value.ref 96), (Value.ref 97), (Value.ref 98), (Value.int 314 0), (Value.int 41 0), (vS "/claim/cut.py" 315)]) #[])
noncomputable def o101 (_ : Params) : Obj := (Obj.mk (Value.type "tuple") none (Data.seq #[] 0) #[])
noncomputable def o103 (_ : Params) : Obj := (Obj.mk (Value.type "tuple") none (Data.seq #[(vS "self" 322)] 0) #[])
noncomputable def o104 (_ : Params) : Obj := (Obj.mk (Value.type "tuple") none (Data.seq #[] 0) #[])
noncomputable def o106 (_ : Params) : Obj := (Obj.mk (Value.type "code") none (Data.fields #[(vS "__repr__" 319), (vS "Match.__repr__" 320), (vS "/claim/cut.py" 321), (Value.int 52 0), (Value.int 1 0), (Value.int 0 0), (Value.int 0 0), (Value.int 3 0), (Value.ref 101), (Value.bool Bool.true), (Value.int 181 0), (Value.ref 102), Value.none, (Value.ref 103), (Value.ref 104), (Value.ref 105), (Value.int 323 0), (Value.int 52 0), (vS "/claim/cut.py" 324)]) #[])
noncomputable def o108 (_ : Params) : Obj := (Obj.mk (Value.type "tuple") none (Data.seq #[] 0) #[])
noncomputable def o110 (_ : Params) : Obj := (Obj.mk (Value.type "tuple") none (Data.seq #[(vS "self" 330)] 0) #[])
noncomputable def o111 (_ : Params) : Obj := (Obj.mk (Value.type "tuple") none (Data.seq #[] 0) #[])
noncomputable def o113 (_ : Params) : Obj := (Obj.mk (Value.type "code") none (Data.fields #[(vS "_asdict" 327), (vS "Match._asdict" 328), (vS "/claim/cut.py" 329), (Value.int 56 0), (Value.int 1 0), (Value.int 0 0), (Value.int 0 0), (Value.int 3 0), (Value.ref 108), (Value.bool Bool.true), (Value.int 181 0), (Value.ref 109), Value.none, (Value.ref 110), (Value.ref 111), (Value.ref 112), (Value.int 331 0), (Value.int 56 0), (vS "/claim/cut.py" 332)]) #[])
noncomputable def o115 (_ : Params) : Obj := (Obj.mk (Value.type "tuple") none (Data.seq #[] 0) #[])
noncomputable def o117 (_ : Params) : Obj := (Obj.mk (Value.type "tuple") none (Data.seq #[(vS "self" 337)] 0) #[])
noncomputable def o118 (_ : Params) : Obj := (Obj.mk (Value.type "tuple") none (Data.seq #[] 0) #[])
noncomputable def o120 (_ : Params) : Obj := (Obj.mk (Value.type "code") none (Data.fields #[(vS "__getnewargs__" 334), (vS "Match.__getnewargs__" 335), (vS "/claim/cut.py" 336), (Value.int 59 0), (Value.int 1 0), (Value.int 0 0), (Value.int 0 0), (Value.int 3 0), (Value.ref 115), (Value.bool Bool.true), (Value.int 181 0), (Value.ref 116), Value.none, (Value.ref 117), (Value.ref 118), (Value.ref 119), (Value.int 338 0), (Value.int 59 0), (vS "/claim/cut.py" 339)]) #[])
noncomputable def o122 (_ : Params) : Obj := (Obj.mk (Value.type "tuple") none (Data.seq #[(vS "a" 342), (vS "b" 343), (vS "size" 344)] 0) #[])
noncomputable def o123 (P : Params) : Obj := (Obj.mk (Value.type "dict") none (Data.dict #[(kE P "index" 352 (Value.int 0 346)), (kE P "__doc__" 354 (vS "Alias for field number 0" 347))] 2) #[])
noncomputable def o124 (_ : Params) : Obj := (Obj.mk (Value.ref 60) (some 123) Data.plain #[])
noncomputable def o126 (P : Params) : Obj := (Obj.mk (Value.type "dict") none (Data.dict #[(kE P "index" 362 (Value.int 1 356)), (kE P "__doc__" 364 (vS "Alias for field number 1" 357))] 2) #[])
noncomputable def o127 (_ : Params) : Obj := (Obj.mk (Value.ref 60) (some 126) Data.plain #[])
noncomputable def o129 (P : Params) : Obj := (Obj.mk (Value.type "dict") none (Data.dict #[(kE P "index" 372 (Value.int 2 366)), (kE P "__doc__" 374 (vS "Alias for field number 2" 367))] 2) #[])
noncomputable def o130 (_ : Params) : Obj := (Obj.mk (Value.ref 60) (some 129) Data.plain #[])
noncomputable def o132 (_ : Params) : Obj := (Obj.mk (Value.type "tuple") none (Data.seq #[] 0) #[])
noncomputable def o134 (P : Params) : Obj := (Obj.mk (Value.type "dict") none (Data.dict #[(kE P "__module__" 260 (vS "cpy313.difflib" 194)), (kE P "__firstlineno__" 264 (Value.int 23 263)), (kE P "__doc__" 266 (vS "Match(a, b, size)" 265)), (kE P "__slots__" 268 (Value.ref 73)), (kE P "_fields" 272 (Value.ref 74)), (kE P "_field_defaults" 273 (Value.ref 75)), (kE P "__new__" 284 (Value.ref 136)), (kE P "_make" 306 (Value.ref 91)), (kE P "_replace" 317 (Value.ref 100)), (kE P "__replace__" 318 (Value.ref 100)), (kE P "__repr__" 326 (Value.ref 107)), (kE P "_asdict" 333 (Value.ref 114)), (kE P "__getnewargs__" 341 (Value.ref 121)), (kE P "__match_args__" 345 (Value.ref 122)), (kE P "a" 355 (Value.ref 124)), (kE P "b" 365 (Value.ref 127)), (kE P "size" 375 (Value.ref 130)), (kE P "__static_attributes__" 376 (Value.ref 132))] 2) #[])
noncomputable def o135 (_ : Params) : Obj := (Obj.mk (Value.type "type") none (Data.cls (ClassData.mk (Str.ofString "Match") [(Value.type "tuple")] [(Value.ref 135), (Value.type "tuple"), (Value.type "object")] 134 (Str.ofString "Match") Bool.false [] [] Bool.false none Bool.false)) #[(some (Value.ref 65)), none, (some (vS "Match" 253)), (some (vS "Match" 261)), (some Value.none), (some (Value.bool Bool.false))])
noncomputable def o136 (_ : Params) : Obj := (Obj.mk (Value.type "staticmethod") none (Data.fields #[(Value.ref 82)]) #[])
noncomputable def o139 (_ : Params) : Obj := (Obj.mk (Value.type "tuple") none (Data.seq #[] 0) #[])
noncomputable def o141 (_ : Params) : Obj := (Obj.mk (Value.type "tuple") none (Data.seq #[(vS "matches" 384), (vS "length" 385)] 0) #[])
noncomputable def o142 (_ : Params) : Obj := (Obj.mk (Value.type "tuple") none (Data.seq #[] 0) #[])
noncomputable def o144 (_ : Params) : Obj := (Obj.mk (Value.type "code") none (Data.fields #[(vS "_calculate_ratio" 381), (vS "_calculate_ratio" 382), (vS "/claim/cut.py" 383), (Value.int 66 0), (Value.int 2 0), (Value.int 0 0), (Value.int 0 0), (Value.int 3 0), (Value.ref 139), (Value.bool Bool.true), (Value.int 181 0), (Value.ref 140), Value.none, (Value.ref 141), (Value.ref 142), (Value.ref 143), (Value.int 386 0), (Value.int 66 0), (vS "/claim/cut.py" 387)]) #[])
noncomputable def o153 (_ : Params) : Obj := (Obj.mk (Value.type "tuple") none (Data.seq #[Value.none, (vS "" 404), (vS "" 405), (Value.bool Bool.true)] 0) #[])
noncomputable def o154 (_ : Params) : Obj := (Obj.mk (Value.type "tuple") none (Data.seq #[] 0) #[])
noncomputable def o156 (_ : Params) : Obj := (Obj.mk (Value.type "tuple") none (Data.seq #[(vS "self" 409), (vS "isjunk" 410), (vS "a" 411), (vS "b" 412), (vS "autojunk" 413)] 0) #[])
noncomputable def o157 (_ : Params) : Obj := (Obj.mk (Value.type "tuple") none (Data.seq #[] 0) #[])
noncomputable def o159 (_ : Params) : Obj := (Obj.mk (Value.type "code") none (Data.fields #[(vS "__init__" 406), (vS "SequenceMatcher.__init__" 407), (vS "/claim/cut.py" 408), (Value.int 145 0), (Value.int 5 0), (Value.int 0 0), (Value.int 0 0), (Value.int 3 0), (Value.ref 154), (Value.bool Bool.true), (Value.int 181 0), (Value.ref 155), Value.none, (Value.ref 156), (Value.ref 157), (Value.ref 158), (Value.int 414 0), (Value.int 145 0), (vS "/claim/cut.py" 415)]) #[])
noncomputable def o160 (_ : Params) : Obj := (Obj.mk (Value.type "function") none (Data.func (FuncData.mk (Str.ofString "__init__") (Str.ofString "SequenceMatcher.__init__") A160 (.stmts B160) S160 3 [] (Value.ref 153) Value.none (.str D160 416) (vS "cpy313.difflib" 194) none (Value.ref 159) Value.none 0)) #[])
noncomputable def o161 (_ : Params) : Obj := (Obj.mk (Value.type "tuple") none (Data.seq #[] 0) #[])
noncomputable def o163 (_ : Params) : Obj := (Obj.mk (Value.type "tuple") none (Data.seq #[(vS "self" 421), (vS "a" 422), (vS "b" 423)] 0) #[])
noncomputable def o164 (_ : Params) : Obj := (Obj.mk (Value.type "tuple") none (Data.seq #[] 0) #[])
noncomputable def o166 (_ : Params) : Obj := (Obj.mk (Value.type "code") none (Data.fields #[(vS "set_seqs" 418), (vS "SequenceMatcher.set_seqs" 419), (vS "/claim/cut.py" 420), (Value.int 173 0), (Value.int 3 0), (Value.int 0 0), (Value.int 0 0), (Value.int 3 0), (Value.ref 161), (Value.bool Bool.true), (Value.int 181 0), (Value.ref 162), Value.none, (Value.ref 163), (Value.ref 164), (Value.ref 165), (Value.int 424 0), (Value.int 173 0), (vS "/claim/cut.py" 425)]) #[])
noncomputable def o167 (_ : Params) : Obj := (Obj.mk (Value.type "function") none (Data.func (FuncData.mk (Str.ofString "set_seqs") (Str.ofString "SequenceMatcher.set_seqs") A167 (.stmts B167) S167 3 [] Value.none Value.none (.str D167 426) (vS "cpy313.difflib" 194) none (Value.ref 166) Value.none 0)) #[])
noncomputable def o168 (_ : Params) : Obj := (Obj.mk (Value.type "tuple") none (Data.seq #[] 0) #[])
noncomputable def o170 (_ : Params) : Obj := (Obj.mk (Value.type "tuple") none (Data.seq #[(vS "self" 431), (vS "a" 432)] 0) #[])
noncomputable def o171 (_ : Params) : Obj := (Obj.mk (Value.type "tuple") none (Data.seq #[] 0) #[])
noncomputable def o173 (_ : Params) : Obj := (Obj.mk (Value.type "code") none (Data.fields #[(vS "set_seq1" 428), (vS "SequenceMatcher.set_seq1" 429), (vS "/claim/cut.py" 430), (Value.int 184 0), (Value.int 2 0), (Value.int 0 0), (Value.int 0 0), (Value.int 3 0), (Value.ref 168), (Value.bool Bool.true), (Value.int 181 0), (Value.ref 169), Value.none, (Value.ref 170), (Value.ref 171), (Value.ref 172), (Value.int 433 0), (Value.int 184 0), (vS "/claim/cut.py" 434)]) #[])
noncomputable def o174 (_ : Params) : Obj := (Obj.mk (Value.type "function") none (Data.func (FuncData.mk (Str.ofString "set_seq1") (Str.ofString "SequenceMatcher.set_seq1") A174 (.stmts B174) S174 3 [] Value.none Value.none (.str D174 435) (vS "cpy313.difflib" 194) none (Value.ref 173) Value.none 0)) #[])
noncomputable def o175 (_ : Params) : Obj := (Obj.mk (Value.type "tuple") none (Data.seq #[] 0) #[])
noncomputable def o177 (_ : Params) : Obj := (Obj.mk (Value.type "tuple") none (Data.seq #[(vS "self" 440), (vS "b" 441)] 0) #[])
noncomputable def o178 (_ : Params) : Obj := (Obj.mk (Value.type "tuple") none (Data.seq #[] 0) #[])
noncomputable def o180 (_ : Params) : Obj := (Obj.mk (Value.type "code") none (Data.fields #[(vS "set_seq2" 437), (vS "SequenceMatcher.set_seq2" 438), (vS "/claim/cut.py" 439), (Value.int 209 0), (Value.int 2 0), (Value.int 0 0), (Value.int 0 0), (Value.int 3 0), (Value.ref 175), (Value.bool Bool.true), (Value.int 181 0), (Value.ref 176), Value.none, (Value.ref 177), (Value.ref 178), (Value.ref 179), (Value.int 442 0), (Value.int 209 0), (vS "/claim/cut.py" 443)]) #[])
noncomputable def o181 (_ : Params) : Obj := (Obj.mk (Value.type "function") none (Data.func (FuncData.mk (Str.ofString "set_seq2") (Str.ofString "SequenceMatcher.set_seq2") A181 (.stmts B181) S181 3 [] Value.none Value.none (.str D181 444) (vS "cpy313.difflib" 194) none (Value.ref 180) Value.none 0)) #[])
noncomputable def o182 (_ : Params) : Obj := (Obj.mk (Value.type "tuple") none (Data.seq #[] 0) #[])
noncomputable def o184 (_ : Params) : Obj := (Obj.mk (Value.type "tuple") none (Data.seq #[(vS "self" 449), (vS "b" 450), (vS "b2j" 451), (vS "i" 452), (vS "elt" 453), (vS "indices" 454), (vS "junk" 455), (vS "isjunk" 456), (vS "popular" 457), (vS "n" 458), (vS "ntest" 459), (vS "idxs" 460)] 0) #[])
noncomputable def o185 (_ : Params) : Obj := (Obj.mk (Value.type "tuple") none (Data.seq #[] 0) #[])
noncomputable def o187 (_ : Params) : Obj := (Obj.mk (Value.type "code") none (Data.fields #[(vS "__chain_b" 446), (vS "SequenceMatcher.__chain_b" 447), (vS "/claim/cut.py" 448), (Value.int 236 0), (Value.int 1 0), (Value.int 0 0), (Value.int 0 0), (Value.int 3 0), (Value.ref 182), (Value.bool Bool.true), (Value.int 181 0), (Value.ref 183), Value.none, (Value.ref 184), (Value.ref 185), (Value.ref 186), (Value.int 461 0), (Value.int 236 0), (vS "/claim/cut.py" 462)]) #[])
noncomputable def o188 (_ : Params) : Obj := (Obj.mk (Value.type "function") none (Data.func (FuncData.mk (Str.ofString "__chain_b") (Str.ofString "SequenceMatcher.__chain_b") A188 (.stmts B188) S188 3 [] Value.none Value.none Value.none (vS "cpy313.difflib" 194) none (Value.ref 187) Value.none 0)) #[])
noncomputable def o189 (_ : Params) : Obj := (Obj.mk (Value.type "tuple") none (Data.seq #[(Value.int 0 464), Value.none, (Value.int 0 465), Value.none] 0) #[])
noncomputable def o190 (_ : Params) : Obj := (Obj.mk (Value.type "tuple") none (Data.seq #[] 0) #[])
noncomputable def o192 (_ : Params) : Obj := (Obj.mk (Value.type "tuple") none (Data.seq #[(vS "self" 469), (vS "alo" 470), (vS "ahi" 471), (vS "blo" 472), (vS "bhi" 473), (vS "a" 474), (vS "b" 475), (vS "b2j" 476), (vS "isbjunk" 477), (vS "besti" 478), (vS "bestj" 479), (vS "bestsize" 480), (vS "j2len" 481), (vS "nothing" 482), (vS "i" 483), (vS "j2lenget" 484), (vS "newj2len" 485), (vS "j" 486), (vS "k" 487)] 0) #[])
noncomputable def o193 (_ : Params) : Obj := (Obj.mk (Value.type "tuple") none (Data.seq #[] 0) #[])
noncomputable def o195 (_ : Params) : Obj := (Obj.mk (Value.type "code") none (Data.fields #[(vS "find_longest_match" 466), (vS "SequenceMatcher.find_longest_match" 467), (vS "/claim/cut.py" 468), (Value.int 260 0), (Value.int 5 0), (Value.int 0 0), (Value.int 0 0), (Value.int 3 0), (Value.ref 190), (Value.bool Bool.true), (Value.int 181 0), (Value.ref 191), Value.none, (Value.ref 192), (Value.ref 193), (Value.ref 194), (Value.int 488 0), (Value.int 260 0), (vS "/claim/cut.py" 489)]) #[])
noncomputable def o196 (_ : Params) : Obj := (Obj.mk (Value.type "function") none (Data.func (FuncData.mk (Str.ofString "find_longest_match") (Str.ofString "SequenceMatcher.find_longest_match") A196 (.stmts B196) S196 3 [] (Value.ref 189) Value.none (.str D196 490) (vS "cpy313.difflib" 194) none (Value.ref 195) Value.none 0)) #[])
noncomputable def o197 (_ : Params) : Obj := (Obj.mk (Value.type "tuple") none (Data.seq #[] 0) #[])
noncomputable def o199 (_ : Params) : Obj := (Obj.mk (Value.type "tuple") none (Data.seq #[(vS "self" 495), (vS "la" 496), (vS "lb" 497), (vS "queue" 498), (vS "matching_blocks" 499), (vS "alo" 500), (vS "ahi" 501), (vS "blo" 502), (vS "bhi" 503), (vS "i" 504), (vS "j" 505), (vS "k" 506), (vS "x" 507), (vS "i1" 508), (vS "j1" 509), (vS "k1" 510), (vS "non_adjacent" 511), (vS "i2" 512), (vS "j2" 513), (vS "k2" 514)] 0) #[])
noncomputable def o200 (_ : Params) : Obj := (Obj.mk (Value.type "tuple") none (Data.seq #[] 0) #[])
noncomputable def o202 (_ : Params) : Obj := (Obj.mk (Value.type "code") none (Data.fields #[(vS "get_matching_blocks" 492), (vS "SequenceMatcher.get_matching_blocks" 493), (vS "/claim/cut.py" 494), (Value.int 335 0), (Value.int 1 0), (Value.int 0 0), (Value.int 0 0), (Value.int 3 0), (Value.ref 197), (Value.bool Bool.true), (Value.int 181 0), (Value.ref 198), Value.none, (Value.ref 199), (Value.ref 200), (Value.ref 201), (Value.int 515 0), (Value.int 335 0), (vS "/claim/cut.py" 516)]) #[])
noncomputable def o203 (_ : Params) : Obj := (Obj.mk (Value.type "function") none (Data.func (FuncData.mk (Str.ofString "get_matching_blocks") (Str.ofString "SequenceMatcher.get_matching_blocks") A203 (.stmts B203) S203 3 [] Value.none Value.none (.str D203 517) (vS "cpy313.difflib" 194) none (Value.ref 202) Value.none 0)) #[])
noncomputable def o204 (_ : Params) : Obj := (Obj.mk (Value.type "tuple") none (Data.seq #[] 0) #[])
noncomputable def o206 (_ : Params) : Obj := (Obj.mk (Value.type "tuple") none (Data.seq #[(vS "self" 522), (vS "i" 523), (vS "j" 524), (vS "answer" 525), (vS "ai" 526), (vS "bj" 527), (vS "size" 528), (vS "tag" 529)] 0) #[])
noncomputable def o207 (_ : Params) : Obj := (Obj.mk (Value.type "tuple") none (Data.seq #[] 0) #[])
noncomputable def o209 (_ : Params) : Obj := (Obj.mk (Value.type "code") none (Data.fields #[(vS "get_opcodes" 519), (vS "SequenceMatcher.get_opcodes" 520), (vS "/claim/cut.py" 521), (Value.int 383 0), (Value.int 1 0), (Value.int 0 0), (Value.int 0 0), (Value.int 3 0), (Value.ref 204), (Value.bool Bool.true), (Value.int 181 0), (Value.ref 205), Value.none, (Value.ref 206), (Value.ref 207), (Value.ref 208), (Value.int 530 0), (Value.int 383 0), (vS "/claim/cut.py" 531)]) #[])
noncomputable def o210 (_ : Params) : Obj := (Obj.mk (Value.type "function") none (Data.func (FuncData.mk (Str.ofString "get_opcodes") (Str.ofString "SequenceMatcher.get_opcodes") A210 (.stmts B210) S210 3 [] Value.none Value.none (.str D210 532) (vS "cpy313.difflib" 194) none (Value.ref 209) Value.none 0)) #[])
noncomputable def o211 (_ : Params) : Obj := (Obj.mk (Value.type "tuple") none (Data.seq #[(Value.int 3 534)] 0) #[])
noncomputable def o212 (_ : Params) : Obj := (Obj.mk (Value.type "tuple") none (Data.seq #[] 0) #[])
noncomputable def o214 (_ : Params) : Obj := (Obj.mk (Value.type "tuple") none (Data.seq #[(vS "self" 538), (vS "n" 539)] 0) #[])
noncomputable def o215 (_ : Params) : Obj := (Obj.mk (Value.type "tuple") none (Data.seq #[] 0) #[])
noncomputable def o217 (_ : Params) : Obj := (Obj.mk (Value.type "code") none (Data.fields #[(vS "get_grouped_opcodes" 535), (vS "SequenceMatcher.get_grouped_opcodes" 536), (vS "/claim/cut.py" 537), (Value.int 430 0), (Value.int 2 0), (Value.int 0 0), (Value.int 0 0), (Value.int 3 0), (Value.ref 212), (Value.bool Bool.true), (Value.int 181 0), (Value.ref 213), Value.none, (Value.ref 214), (Value.ref 215), (Value.ref 216), (Value.int 540 0), (Value.int 430 0), (vS "/claim/cut.py" 541)]) #[])
noncomputable def o219 (_ : Params) : Obj := (Obj.mk (Value.type "tuple") none (Data.seq #[] 0) #[])
noncomputable def o221 (_ : Params) : Obj := (Obj.mk (Value.type "tuple") none (Data.seq #[(vS "self" 546), (vS "matches" 547)] 0) #[])
noncomputable def o222 (_ : Params) : Obj := (Obj.mk (Value.type "tuple") none (Data.seq #[] 0) #[])
noncomputable def o224 (_ : Params) : Obj := (Obj.mk (Value.type "code") none (Data.fields #[(vS "ratio" 543), (vS "SequenceMatcher.ratio" 544), (vS "/claim/cut.py" 545), (Value.int 433 0), (Value.int 1 0), (Value.int 0 0), (Value.int 0 0), (Value.int 3 0), (Value.ref 219), (Value.bool Bool.true), (Value.int 181 0), (Value.ref 220), Value.none, (Value.ref 221), (Value.ref 222), (Value.ref 223), (Value.int 548 0), (Value.int 433 0), (vS "/claim/cut.py" 549)]) #[])
noncomputable def o226 (_ : Params) : Obj := (Obj.mk (Value.type "tuple") none (Data.seq #[] 0) #[])
noncomputable def o228 (_ : Params) : Obj := (Obj.mk (Value.type "tuple") none (Data.seq #[(vS "self" 555)] 0) #[])
noncomputable def o229 (_ : Params) : Obj := (Obj.mk (Value.type "tuple") none (Data.seq #[] 0) #[])
noncomputable def o231 (_ : Params) : Obj := (Obj.mk (Value.type "code") none (Data.fields #[(vS "quick_ratio" 552), (vS "SequenceMatcher.quick_ratio" 553), (vS "/claim/cut.py" 554), (Value.int 457 0), (Value.int 1 0), (Value.int 0 0), (Value.int 0 0), (Value.int 3 0), (Value.ref 226), (Value.bool Bool.true), (Value.int 181 0), (Value.ref 227), Value.none, (Value.ref 228), (Value.ref 229), (Value.ref 230), (Value.int 556 0), (Value.int 457 0), (vS "/claim/cut.py" 557)]) #[])
noncomputable def o233 (_ : Params) : Obj := (Obj.mk (Value.type "tuple") none (Data.seq #[] 0) #[])
noncomputable def o235 (_ : Params) : Obj := (Obj.mk (Value.type "tuple") none (Data.seq #[(vS "self" 562)] 0) #[])
noncomputable def o236 (_ : Params) : Obj := (Obj.mk (Value.type "tuple") none (Data.seq #[] 0) #[])
noncomputable def o238 (_ : Params) : Obj := (Obj.mk (Value.type "code") none (Data.fields #[(vS "real_quick_ratio" 559), (vS "SequenceMatcher.real_quick_ratio" 560), (vS "/claim/cut.py" 561), (Value.int 460 0), (Value.int 1 0), (Value.int 0 0), (Value.int 0 0), (Value.int 3 0), (Value.ref 233), (Value.bool Bool.true), (Value.int 181 0), (Value.ref 234), Value.none, (Value.ref 235), (Value.ref 236), (Value.ref 237), (Value.int 563 0), (Value.int 460 0), (vS "/claim/cut.py" 564)]) #[])
noncomputable def o240 (_ : Params) : Obj := (Obj.mk (Value.type "tuple") none (Data.seq #[(vS "a" 566), (vS "autojunk" 567), (vS "b" 568), (vS "b2j" 569), (vS "bjunk" 570), (vS "bpopular" 571), (vS "fullbcount" 572), (vS "isjunk" 573), (vS "matching_blocks" 574), (vS "opcodes" 575)] 0) #[])
noncomputable def o241 (P : Params) : Obj := (Obj.mk (Value.type "dict") none (Data.dict #[(kE P "__module__" 396 (vS "cpy313.difflib" 194)), (kE P "__firstlineno__" 400 (Value.int 70 399)), (kE P "__doc__" 402 (Value.str D242 401)), (kE P "__init__" 417 (Value.ref 160)), (kE P "set_seqs" 427 (Value.ref 167)), (kE P "set_seq1" 436 (Value.ref 174)), (kE P "set_seq2" 445 (Value.ref 181)), (kE P "_SequenceMatcher__chain_b" 463 (Value.ref 188)), (kE P "find_longest_match" 491 (Value.ref 196)), (kE P "get_matching_blocks" 518 (Value.ref 203)), (kE P "get_opcodes" 533 (Value.ref 210)), (kE P "get_grouped_opcodes" 542 (Value.ref 218)), (kE P "ratio" 551 (Value.ref 225)), (kE P "quick_ratio" 558 (Value.ref 232)), (kE P "real_quick_ratio" 565 (Value.ref 239)), (kE P "__static_attributes__" 576 (Value.ref 240)), (kE P "__dict__" 578 (Value.ref 243)), (kE P "__weakref__" 580 (Value.ref 244))] 3) #[])
noncomputable def o242 (_ : Params) : Obj := (Obj.mk (Value.type "type") none (Data.cls (ClassData.mk (Str.ofString "SequenceMatcher") [(Value.type "object")] [(Value.ref 242), (Value.type "object")] 241 (Str.ofString "SequenceMatcher") Bool.true [] [] Bool.false none Bool.false)) #[none, none, (some (vS "SequenceMatcher" 389)), (some (vS "SequenceMatcher" 397)), (some (Value.builtin "object.__new__")), (some (Value.bool Bool.true))])
noncomputable def o243 (_ : Params) : Obj := (Obj.mk (Value.type "getset_descriptor") none (Data.fields #[(vS "__dict__" 577), (Value.ref 242), (Value.builtin "function.__dict__"), (Value.builtin "function.__dict__#set")]) #[])
noncomputable def o244 (_ : Params) : Obj := (Obj.mk (Value.type "getset_descriptor") none (Data.fields #[(vS "__weakref__" 579), (Value.ref 242), (Value.builtin "ExceptionGroup.__weakref__"), Value.none]) #[])
noncomputable def o247 (_ : Params) : Obj := (Obj.mk (Value.type "tuple") none (Data.seq #[] 0) #[])
noncomputable def o249 (_ : Params) : Obj := (Obj.mk (Value.type "tuple") none (Data.seq #[(vS "script" 588), (vS "matcher" 589), (vS "item" 590), (vS "x" 591), (vS "y" 592), (vS "turn" 593), (vS "size" 594), (vS "first" 595), (vS "second" 596), (vS "whole" 597), (vS "there" 598), (vS "codes" 599), (vS "back" 600), (vS "back_codes" 601)] 0) #[])
noncomputable def o250 (_ : Params) : Obj := (Obj.mk (Value.type "tuple") none (Data.seq #[] 0) #[])
noncomputable def o252 (_ : Params) : Obj := (Obj.mk (Value.type "code") none (Data.fields #[(vS "law" 585), (vS "law" 586), (vS "/claim/cut.py" 587), (Value.int 463 0), (Value.int 1 0), (Value.int 0 0), (Value.int 0 0), (Value.int 3 0), (Value.ref 247), (Value.bool Bool.true), (Value.int 181 0), (Value.ref 248), Value.none, (Value.ref 249), (Value.ref 250), (Value.ref 251), (Value.int 602 0), (Value.int 463 0), (vS "/claim/cut.py" 603)]) #[])
noncomputable def o253 (_ : Params) : Obj := (Obj.mk (Value.type "function") none (Data.func (FuncData.mk (Str.ofString "law") (Str.ofString "law") A253 (.stmts B253) S253 3 [] Value.none Value.none Value.none (vS "law_mt0013_01" 583) none (Value.ref 252) Value.none 0)) #[])
noncomputable def K (P : Params) : Frag := 
(nat_lit 2, o2 P) ::
(nat_lit 3, o3 P) ::
(nat_lit 15, o15 P) ::
(nat_lit 17, o17 P) ::
(nat_lit 18, o18 P) ::
(nat_lit 20, o20 P) ::
(nat_lit 29, o29 P) ::
(nat_lit 31, o31 P) ::
(nat_lit 32, o32 P) ::
(nat_lit 34, o34 P) ::
(nat_lit 36, o36 P) ::
(nat_lit 37, o37 P) ::
(nat_lit 39, o39 P) ::
(nat_lit 40, o40 P) ::
(nat_lit 42, o42 P) ::
(nat_lit 44, o44 P) ::
(nat_lit 46, o46 P) ::
(nat_lit 47, o47 P) ::
(nat_lit 49, o49 P) ::
(nat_lit 51, o51 P) ::
(nat_lit 53, o53 P) ::
(nat_lit 54, o54 P) ::
(nat_lit 56, o56 P) ::
(nat_lit 58, o58 P) ::
(nat_lit 59, o59 P) ::
(nat_lit 60, o60 P) ::
(nat_lit 61, o61 P) ::
(nat_lit 62, o62 P) ::
(nat_lit 65, o65 P) ::
(nat_lit 68, o68 P) ::
(nat_lit 73, o73 P) ::
(nat_lit 74, o74 P) ::
(nat_lit 75, o75 P) ::
(nat_lit 76, o76 P) ::
(nat_lit 78, o78 P) ::
(nat_lit 79, o79 P) ::
(nat_lit 81, o81 P) ::
(nat_lit 82, o82 P) ::
(nat_lit 83, o83 P) ::
(nat_lit 85, o85 P) ::
(nat_lit 86, o86 P) ::
(nat_lit 88, o88 P) ::
(nat_lit 89, o89 P) ::
(nat_lit 90, o90 P) ::
(nat_lit 91, o91 P) ::
(nat_lit 92, o92 P) ::
(nat_lit 93, o93 P) ::
(nat_lit 94, o94 P) ::
(nat_lit 96, o96 P) ::
(nat_lit 97, o97 P) ::
(nat_lit 99, o99 P) ::
(nat_lit 101, o101 P) ::
(nat_lit 103, o103 P) ::
(nat_lit 104, o104 P) ::
(nat_lit 106, o106 P) ::
(nat_lit 108, o108 P) ::
(nat_lit 110, o110 P) ::
(nat_lit 111, o111 P) ::
(nat_lit 113, o113 P) ::
(nat_lit 115, o115 P) ::
(nat_lit 117, o117 P) ::
(nat_lit 118, o118 P) ::
(nat_lit 120, o120 P) ::
(nat_lit 122, o122 P) ::
(nat_lit 123, o123 P) ::
(nat_lit 124, o124 P) ::
(nat_lit 126, o126 P) ::
(nat_lit 127, o127 P) ::
(nat_lit 129, o129 P) ::
(nat_lit 130, o130 P) ::
(nat_lit 132, o132 P) ::
(nat_lit 134, o134 P) ::
(nat_lit 135, o135 P) ::
(nat_lit 136, o136 P) ::
(nat_lit 139, o139 P) ::
(nat_lit 141, o141 P) ::
(nat_lit 142, o142 P) ::
(nat_lit 144, o144 P) ::
(nat_lit 153, o153 P) ::
(nat_lit 154, o154 P) ::
(nat_lit 156, o156 P) ::
(nat_lit 157, o157 P) ::
(nat_lit 159, o159 P) ::
(nat_lit 160, o160 P) ::
(nat_lit 161, o161 P) ::
(nat_lit 163, o163 P) ::
(nat_lit 164, o164 P) ::
(nat_lit 166, o166 P) ::
(nat_lit 167, o167 P) ::
(nat_lit 168, o168 P) ::
(nat_lit 170, o170 P) ::
(nat_lit 171, o171 P) ::
(nat_lit 173, o173 P) ::
(nat_lit 174, o174 P) ::
(nat_lit 175, o175 P) ::
(nat_lit 177, o177 P) ::
(nat_lit 178, o178 P) ::
(nat_lit 180, o180 P) ::
(nat_lit 181, o181 P) ::
(nat_lit 182, o182 P) ::
(nat_lit 184, o184 P) ::
(nat_lit 185, o185 P) ::
(nat_lit 187, o187 P) ::
(nat_lit 188, o188 P) ::
(nat_lit 189, o189 P) ::
(nat_lit 190, o190 P) ::
(nat_lit 192, o192 P) ::
(nat_lit 193, o193 P) ::
(nat_lit 195, o195 P) ::
(nat_lit 196, o196 P) ::
(nat_lit 197, o197 P) ::
(nat_lit 199, o199 P) ::
(nat_lit 200, o200 P) ::
(nat_lit 202, o202 P) ::
(nat_lit 203, o203 P) ::
(nat_lit 204, o204 P) ::
(nat_lit 206, o206 P) ::
(nat_lit 207, o207 P) ::
(nat_lit 209, o209 P) ::
(nat_lit 210, o210 P) ::
(nat_lit 211, o211 P) ::
(nat_lit 212, o212 P) ::
(nat_lit 214, o214 P) ::
(nat_lit 215, o215 P) ::
(nat_lit 217, o217 P) ::
(nat_lit 219, o219 P) ::
(nat_lit 221, o221 P) ::
(nat_lit 222, o222 P) ::
(nat_lit 224, o224 P) ::
(nat_lit 226, o226 P) ::
(nat_lit 228, o228 P) ::
(nat_lit 229, o229 P) ::
(nat_lit 231, o231 P) ::
(nat_lit 233, o233 P) ::
(nat_lit 235, o235 P) ::
(nat_lit 236, o236 P) ::
(nat_lit 238, o238 P) ::
(nat_lit 240, o240 P) ::
(nat_lit 241, o241 P) ::
(nat_lit 242, o242 P) ::
(nat_lit 243, o243 P) ::
(nat_lit 244, o244 P) ::
(nat_lit 247, o247 P) ::
(nat_lit 249, o249 P) ::
(nat_lit 250, o250 P) ::
(nat_lit 252, o252 P) ::
(nat_lit 253, o253 P) :: []
noncomputable def KV (P : Params) : List (Option Obj) := 
some (o2 P) ::
some (o3 P) ::
some (o15 P) ::
some (o17 P) ::
some (o18 P) ::
some (o20 P) ::
some (o29 P) ::
some (o31 P) ::
some (o32 P) ::
some (o34 P) ::
some (o36 P) ::
some (o37 P) ::
some (o39 P) ::
some (o40 P) ::
some (o42 P) ::
some (o44 P) ::
some (o46 P) ::
some (o47 P) ::
some (o49 P) ::
some (o51 P) ::
some (o53 P) ::
some (o54 P) ::
some (o56 P) ::
some (o58 P) ::
some (o59 P) ::
some (o60 P) ::
some (o61 P) ::
some (o62 P) ::
some (o65 P) ::
some (o68 P) ::
some (o73 P) ::
some (o74 P) ::
some (o75 P) ::
some (o76 P) ::
some (o78 P) ::
some (o79 P) ::
some (o81 P) ::
some (o82 P) ::
some (o83 P) ::
some (o85 P) ::
some (o86 P) ::
some (o88 P) ::
some (o89 P) ::
some (o90 P) ::
some (o91 P) ::
some (o92 P) ::
some (o93 P) ::
some (o94 P) ::
some (o96 P) ::
some (o97 P) ::
some (o99 P) ::
some (o101 P) ::
some (o103 P) ::
some (o104 P) ::
some (o106 P) ::
some (o108 P) ::
some (o110 P) ::
some (o111 P) ::
some (o113 P) ::
some (o115 P) ::
some (o117 P) ::
some (o118 P) ::
some (o120 P) ::
some (o122 P) ::
some (o123 P) ::
some (o124 P) ::
some (o126 P) ::
some (o127 P) ::
some (o129 P) ::
some (o130 P) ::
some (o132 P) ::
some (o134 P) ::
some (o135 P) ::
some (o136 P) ::
some (o139 P) ::
some (o141 P) ::
some (o142 P) ::
some (o144 P) ::
some (o153 P) ::
some (o154 P) ::
some (o156 P) ::
some (o157 P) ::
some (o159 P) ::
some (o160 P) ::
some (o161 P) ::
some (o163 P) ::
some (o164 P) ::
some (o166 P) ::
some (o167 P) ::
some (o168 P) ::
some (o170 P) ::
some (o171 P) ::
some (o173 P) ::
some (o174 P) ::
some (o175 P) ::
some (o177 P) ::
some (o178 P) ::
some (o180 P) ::
some (o181 P) ::
some (o182 P) ::
some (o184 P) ::
some (o185 P) ::
some (o187 P) ::
some (o188 P) ::
some (o189 P) ::
some (o190 P) ::
some (o192 P) ::
some (o193 P) ::
some (o195 P) ::
some (o196 P) ::
some (o197 P) ::
some (o199 P) ::
some (o200 P) ::
some (o202 P) ::
some (o203 P) ::
some (o204 P) ::
some (o206 P) ::
some (o207 P) ::
some (o209 P) ::
some (o210 P) ::
some (o211 P) ::
some (o212 P) ::
some (o214 P) ::
some (o215 P) ::
some (o217 P) ::
some (o219 P) ::
some (o221 P) ::
some (o222 P) ::
some (o224 P) ::
some (o226 P) ::
some (o228 P) ::
some (o229 P) ::
some (o231 P) ::
some (o233 P) ::
some (o235 P) ::
some (o236 P) ::
some (o238 P) ::
some (o240 P) ::
some (o241 P) ::
some (o242 P) ::
some (o243 P) ::
some (o244 P) ::
some (o247 P) ::
some (o249 P) ::
some (o250 P) ::
some (o252 P) ::
some (o253 P) :: []
theorem KV_eq : ∀ P, (K P).map (fun p => some p.2) = KV P := fun _ => by kernel_rfl
noncomputable def kAs : List Addr := [2, 3, 15, 17, 18, 20, 29, 31, 32, 34, 36, 37, 39, 40, 42, 44, 46, 47, 49, 51, 53, 54, 56, 58, 59, 60, 61, 62, 65, 68, 73, 74, 75, 76, 78, 79, 81, 82, 83, 85, 86, 88, 89, 90, 91, 92, 93, 94, 96, 97, 99, 101, 103, 104, 106, 108, 110, 111, 113, 115, 117, 118, 120, 122, 123, 124, 126, 127, 129, 130, 132, 134, 135, 136, 139, 141, 142, 144, 153, 154, 156, 157, 159, 160, 161, 163, 164, 166, 167, 168, 170, 171, 173, 174, 175, 177, 178, 180, 181, 182, 184, 185, 187, 188, 189, 190, 192, 193, 195, 196, 197, 199, 200, 202, 203, 204, 206, 207, 209, 210, 211, 212, 214, 215, 217, 219, 221, 222, 224, 226, 228, 229, 231, 233, 235, 236, 238, 240, 241, 242, 243, 244, 247, 249, 250, 252, 253]
theorem kAs_eq : ∀ P, kAs = (K P).map (·.1) := fun _ => by kernel_rfl
noncomputable abbrev pw : Program := PySem.Challenge.pw_mt0013_01
noncomputable def qv : Program := PySem.W.view PySem.Challenge.pw_mt0013_01 [0, 2, 3, 4, 5, 7]
noncomputable def loose : List Str := [Str.ofString "_tuplegetter", Str.ofString "Match", Str.ofString "SequenceMatcher"]
noncomputable def hook : Hook := kHook K kAs kAs_eq
noncomputable def Xt (s : Shared) : Bool := xlAt qv [] s && recOk [] s
noncomputable def LA0 (p : Program) (h0 : Heap) (s : Shared) : Bool := staticsOk (importedModules p.main.body) h0 s.heap && namesBound p s.heap && gensDone s && laidKept h0 s.heap
noncomputable def LB0 (q : Program) (loose : List Str) (p : Program) (s : Shared) := openSeen q loose (importedModules p.main.body) (fun s => xlAt q [] s && recOk [] s) true s
noncomputable def GB0 (q : Program) (loose : List Str) := openGood q loose
lay_quick Mine.LA0 Mine.LB0 Mine.GB0
noncomputable abbrev LAQ := PySem.W.Fast.tw6203234015962931157
noncomputable abbrev LBQ := PySem.W.Fast.tw7988789340109078602
noncomputable abbrev GBQ := PySem.W.Fast.tw11404513633626621644
noncomputable abbrev SR := @PySem.W.Fast.tw10110043849684766642
noncomputable def p1 (_ : Params) : Obj := { cls := .type "tuple", data := .seq #[] }
noncomputable def p2 (_ : Params) : Obj := { cls := .none, data := .fields #[] }
noncomputable def p3 (_ : Params) : Obj := { cls := .type "code", data := .fields #[vS "<module>" 182, vS "<module>" 183, vS "/claim/cut.py" 184, .int 1 0, .int 0 0, .int 0 0, .int 0 0, .int 0 0, .ref 11, .bool false, .int 181 0, .ref 12, .none, .none, .none, .none, .int 185 0, .int 1 0, vS "/claim/cut.py" 186] }
noncomputable def p4 (_ : Params) : Obj := { cls := .type "frame", slots := #[some (.ref 13), some (.ref 3), some (.ref 3), none, some (vS "__main__" 164), none, some (.ref 0)] }
/-- the heap ahead of the first statement -/
noncomputable def tree4 (P : Params) : BT :=
  .node (boot_o_0 P)
    (.node (boot_o_1 P) (.node (boot_o_3 P) (.node (boot_o_7 P) .nil .nil) (.node (p1 P) .nil .nil)) (.node (boot_o_5 P) (.node (boot_o_9 P) .nil .nil) (.node (p3 P) .nil .nil)))
    (.node (boot_o_2 P) (.node (boot_o_4 P) (.node (boot_o_8 P) .nil .nil) (.node (p2 P) .nil .nil)) (.node (boot_o_6 P) (.node (boot_o_10 P) .nil .nil) (.node (p4 P) .nil .nil)))
noncomputable def env1 : Env := { scope := pw.main.scope, locals := mainNs, globals := mainNs, cells := [], code := .ref 13, frame := some 14 }
noncomputable abbrev cB : Code := Code.body (behindTheImports pw) env1
noncomputable abbrev st4 (w : World) (os : OsState) : SharedT := { tree := tree4 w.params, n := 15, life := {}, gens := ⟨[]⟩, drawn := {}, toks := 187, os := os }
noncomputable def setDoc (d : Str) : Stmt → Stmt
  | .ClassDef n bs ks (.Expr (.Constant (.str _) a b) c :: r) ds ts sc tsc bd fl p => .ClassDef n bs ks (.Expr (.Constant (.str d) a b) c :: r) ds ts sc tsc bd fl p
  | s => s
noncomputable def bodyD (d : Str) : List Stmt := match pw.main.body with
  | a :: b :: c :: e :: f :: s :: r => a :: b :: c :: e :: f :: setDoc d s :: r
  | l => l
theorem bodyD_eq : behindTheImports pw = bodyD clsDoc := by kernel_rfl
theorem runQ (w : World) (os : OsState) :
    (SR (tabF TN) pw w 11 (some (Value.ref 6)) 1 2149 (st4 w os) (piecesOf (bodyD docQ) env1 cB ⟨0, 0, 0, 0⟩ [topFrame ⟨0, 0, 0, 0⟩])).map
      (fun r => (r.1, r.2.2.1, r.2.2.2, LAQ pw (boot_heap w.params) r.2.1.abs, LBQ qv loose pw r.2.1.abs, kAs.map r.2.1.abs.heap.get?)) = some (.next, cB, ⟨463, 0, 493, 15⟩, true, GBQ qv loose, KV w.params) := by
  delta TN PySem.W.Fast.tw4202317264376624991
  rw [anyF_eq]
  kernel_rfl
theorem runD (w : World) (os : OsState) :
    (segRunT treeTable pw w 11 (some (Value.ref 6)) 1 2149 (st4 w os) (piecesOf (behindTheImports pw) env1 cB ⟨0, 0, 0, 0⟩ [topFrame ⟨0, 0, 0, 0⟩])).map
      (fun r => (r.1, r.2.2.1, r.2.2.2, LA0 pw (boot_heap w.params) r.2.1.abs, LB0 qv loose pw r.2.1.abs, kAs.map r.2.1.abs.heap.get?)) = some (.next, cB, ⟨463, 0, 493, 15⟩, true, GB0 qv loose, KV w.params) := by
  have h := runQ w os
  have e1 : @segRunT = SR := PySem.W.Fast.te10110043849684766642
  have e2 : treeTable = TT := PySem.W.Fast.te14364793385576792824
  have e6 : LA0 = LAQ := PySem.W.Fast.te6203234015962931157
  have e7 : LB0 = LBQ := PySem.W.Fast.te7988789340109078602
  have e8 : GB0 = GBQ := PySem.W.Fast.te11404513633626621644
  have e9 : bodyD docQ = behindTheImports pw := bodyD_eq.trans (congrArg bodyD PySem.W.Fast.te864061201876142717) |>.symm
  rw [← tabF_eq, e9, ← e1, ← e2, ← e6, ← e7, ← e8] at h
  exact h
theorem fin_any (w : World) (s : Shared) (p : Pos) : topRun treeTable pw w 11 (some (Value.ref 6)) 2 s ⟨doneF .next, cB, p, [topFrame ⟨0, 0, 0, 0⟩]⟩ = some s := by rfl
theorem pre12 (w : World) (os : OsState) : topGo treeTable pw w 11 (some (Value.ref 6)) 12 ⟨boot_heap w.params, ⟨[]⟩, boot_drawn, boot_toks, os⟩ (topStub pw) =
    some (SharedT.abs (st4 w os), ⟨denote treeTable cB, cB, ⟨0, 0, 0, 0⟩, [topFrame ⟨0, 0, 0, 0⟩]⟩) := by kernel_rfl
theorem blk (w : World) (os : OsState) : segRun treeTable pw w 11 (some (Value.ref 6)) 1 1 (SharedT.abs (st4 w os))
    (blockOf (behindTheImports pw) env1 cB ⟨0, 0, 0, 0⟩ [topFrame ⟨0, 0, 0, 0⟩]) = some (.next, SharedT.abs (st4 w os), cB, ⟨0, 0, 0, 0⟩) := by kernel_rfl
theorem topAll (w : World) (os : OsState) : ∃ s, topRun treeTable pw w 11 (some (Value.ref 6)) (12 + (1 + (2149 + 2))) ⟨boot_heap w.params, ⟨[]⟩, boot_drawn, boot_toks, os⟩ (topStub pw) = some s ∧
    LA0 pw (boot_heap w.params) s = true ∧ LB0 qv loose pw s = GB0 qv loose ∧ kAs.map s.heap.get? = KV w.params := by
  obtain ⟨⟨f, s', c, p⟩, h1, h2⟩ := Option.map_eq_some_iff.mp (runD w os)
  simp only [Prod.mk.injEq] at h2
  obtain ⟨rfl, rfl, rfl, a, b, k⟩ := h2
  refine ⟨s'.abs, ?_, a, b, k⟩
  refine go_top (pre12 w os) (piece_block (blk w os) ?_)
  have := piece_app (segRun_of h1) (piece_nil (fin_any w _ _))
  rwa [List.append_nil] at this
theorem leftO_of {p q : Program} {loose : List Str} {Xt : Shared → Bool} {α : Type} {Yf : Shared → α} {Ya : World → α} {N : Nat} {g0 : Bool} {H₀ : Params → Heap} {gs₀ : Array GenState} {d₀ : Drawn} {k₀ : Nat} {m₀ : Nat} {ann : Option Value} {M : Nat}
    (open_ : ∀ w : World, (fencedOpening treeTable p w N).map (fun s => (s.heap, s.gens, s.drawn, s.toks)) = some (H₀ w.params, gs₀, d₀, k₀))
    (size : ∀ w : World, ((H₀ w.params).isNs mainGlobals && gs₀.size == 0, (H₀ w.params).objs.size, (H₀ w.params).nsMap mainGlobals "__annotations__") = (true, m₀, ann))
    (run : ∀ (w : World) (os : OsState), ∃ s, topRun treeTable p w m₀ ann M ⟨H₀ w.params, gs₀, d₀, k₀, os⟩ (topStub p) = some s ∧
      (staticsOk (importedModules p.main.body) (H₀ w.params) s.heap && namesBound p s.heap && gensDone s && laidKept (H₀ w.params) s.heap) = true ∧
      openSeen q loose (importedModules p.main.body) Xt g0 s = openGood q loose ∧ Yf s = Ya w) (le : Nat.ble M N = true) : LeftO p q loose Xt Yf Ya N g0 := fun w => by
  obtain ⟨⟨h, gs, d, k, os⟩, e, e'⟩ := Option.map_eq_some_iff.mp (open_ w)
  obtain ⟨rfl, rfl, rfl, rfl⟩ : h = H₀ w.params ∧ gs = gs₀ ∧ d = d₀ ∧ k = k₀ := by simpa using e'
  obtain ⟨s, r, l1, l2, l3⟩ := run w os
  obtain ⟨z1, z2, z3⟩ : _ ∧ _ ∧ _ := by simpa only [Prod.mk.injEq] using size w
  have r := topRun_mono (N - M) _ _ _ _ r
  rw [show M + (N - M) = N by have := Nat.le_of_ble_eq_true le; omega] at r
  have t : topFrom treeTable p w N ⟨H₀ w.params, gs, d, k, os⟩ = some s := by
    unfold topFrom
    dsimp only
    rw [z1, z2, z3, r]
    show (match staticsOk (importedModules p.main.body) (H₀ w.params) s.heap && namesBound p s.heap && gensDone s && laidKept (H₀ w.params) s.heap with | true => _ | false => _) = _
    rw [l1]
  unfold openEnds
  rw [e]
  show (topFrom treeTable p w N _).map _ = _
  rw [t]
  exact congrArg some (Prod.ext l2 l3)
theorem size0 (w : World) : ((boot_heap w.params).isNs mainGlobals && (⟨[]⟩ : Array GenState).size == 0, (boot_heap w.params).objs.size, (boot_heap w.params).nsMap mainGlobals "__annotations__") = (true, 11, some (Value.ref 6)) := by kernel_rfl
theorem opens : opening pw = plainProg pw.main.scope.names := by kernel_rfl
theorem fences (s : Shared) : fenceModules? pw s = some s := by kernel_rfl
theorem left : LeftO pw qv loose Xt (Hook.obs hook) (Hook.val hook) 4414 :=
  leftO_of (boot_open (p := pw) (N := 4414) opens rfl fences) size0 (fun w os => by
    obtain ⟨s, r, l1, l2, l3⟩ := topAll w os
    exact ⟨s, r, l1, l2, l3.trans (KV_eq w.params).symm⟩) rfl
theorem wp_tok {α : Type} {M : Model} {A : Around} {x : Sem α} {Q : α → Shared → Prop} {E : Value → Shared → Prop} {h : Heap} {g : Array GenState} {d : Drawn} {t : Nat} {o : OsState} (H : ∀ tk, wpAny M A x Q E ⟨h, g, d, tk, o⟩) :
    wpAny M A x Q E ⟨h, g, d, t + 1 + 1 + 1 + 1 + 1 + 1, o⟩ := H _
end Mine
end
section
open PySem PySem.W PyProof.Rows
set_option maxRecDepth 100000
namespace Mine
theorem nd_call {α : Type} {M : Model} {A : Around} {E : Value → Shared → Prop} {s : Shared} {c : Code} {g : Bool} {l : List Value} {k : Result → Sem α} {Q : α → Shared → Prop}
    (hc : codeAny M A c (fun r s' => wpAny M A (k r) Q E s') s) : wpAny M A (Sem.call c none g l k) Q E s := fun Γ p hΓ => by
  rw [Sem.wp_call]
  exact wpCode_mono (fun r s' h => h Γ p hΓ) (hc _ p rfl (hΓ.enter c none p (by intro x; cases x)))
theorem slot_md : Slot "method_descriptor" "__get__" "method_descriptor.__get__" :=
  .of (owner := "method_descriptor") (n := "__get__") (by rw [typeLookup_type, builtinLookup_eq_fast]; kernel_rfl) (by decide +kernel) (by decide +kernel) (by decide +kernel)
    (by first | exact .inl (by decide +kernel) | exact .inr (by decide +kernel)) (by rw [isSubtype_type]; kernel_rfl)
theorem entry_md : entryFor table "method_descriptor.__get__" = some Builtin.«method_descriptor.__get__» := entryFor_of_tree (by kernel_rfl)
theorem args_md (a b c : Value) : argsOk "method_descriptor.__get__" ⟨[a, b, c], []⟩ := by unfold argsOk; kernel_rfl
theorem ty_sc : typeOf (.builtin "set.__contains__") = pure (.type "method_descriptor") := by show builtinType _ = _; rw [builtinType_eq_fast]; kernel_rfl
noncomputable abbrev bmObj (id : String) (a : Addr) : Obj := { cls := .type "builtin_function_or_method", data := .fields #[.builtin id, .ref a] }
set_option maxHeartbeats 2000000 in
theorem getAttr_sc {prog : Program} {w : World} {A : Around} {E : Value → Shared → Prop} {s : Shared} {a : Addr} {es : Array (Int × Value)} {k : Nat} {tb : SetTable} {Q : Value → Shared → Prop}
    (hx : s.heap.get? a = some { cls := .type "set", data := .set es k tb }) (h : ∀ tk, Q (.ref s.heap.objs.size) { s with heap := s.heap.push (bmObj "set.__contains__" a), toks := tk }) :
    wpAny (model prog w) A (getAttr (.ref a) "__contains__" true) Q E s := by
  obtain ⟨hh, g, dr, t, os⟩ := s
  dsimp only at hx h
  unfold getAttr getAttrBy
  repeat k_node
  refine nd_call ?_
  show codeAny _ _ (.call (.builtin "set.__getattribute__") ⟨[.ref a, .str "__contains__" t], []⟩) _ _
  refine codeAny_call_builtin F.slot_set_getattribute.plain F.entry_set_ga (F.slot_set_getattribute.check _ _ _ _ _ _ _ _ ⟨_, hx, rfl⟩ (F.args_set_getattribute_2 _ _) ?_)
  unfold Builtin.«object.__getattribute__»
  repeat k_node
  refine nd_call ?_
  show codeAny _ _ (.call (.builtin "method_descriptor.__get__") ⟨[.builtin "set.__contains__", .ref a, .type "set"], []⟩) _ _
  refine codeAny_call_builtin slot_md.plain entry_md (slot_md.check _ _ _ _ _ _ _ _ ty_sc (args_md _ _ _) ?_)
  unfold Builtin.«method_descriptor.__get__»
  repeat k_node
  exact h _
end Mine
end
section
open PySem PySem.W PyProof.Rows
set_option maxRecDepth 100000
namespace Mine
theorem call_bm {prog : Program} {w : World} {A : Around} {s : Shared} {q a : Addr} {id : String} {args : List Value} {R : Result → Shared → Prop}
    (hq : s.heap.get? q = some (bmObj id a)) (hp : plainId id = true)
    (hck : wpAny (model prog w) (A.under (.call (.ref q) ⟨args, []⟩)) (checkBoundCall id ⟨.ref a :: args, []⟩) (fun _ s' => s' = s) (fun _ _ => False) s)
    (h : codeAny (model prog w) A (.builtin id ⟨.ref a :: args, []⟩) R s) :
    codeAny (model prog w) A (.call (.ref q) ⟨args, []⟩) R s := by
  obtain ⟨hh, g, dr, t, os⟩ := s
  dsimp only at hq
  refine codeAny_of_tree ?_
  show wpAny _ _ (callAny (.ref q) _) _ _ _
  repeat k_node
  refine wpAny_bind (wpAny_mono hck (fun _ s' e => ?_) fun _ _ e => e.elim)
  subst e
  exact wpAny_pure ⟨plainId_quiet hp _, h⟩
set_option maxHeartbeats 2000000 in
theorem ck_get {M : Model} {A : Around} {s : Shared} {a : Addr} {o : Obj} {x y : Value} {es : Array DictEntry} {n : Nat} (ho : s.heap.get? a = some o) (hc : o.cls = .type "dict") (hd : o.data = .dict es n) :
    wpAny M A (checkBoundCall "dict.get" ⟨[.ref a, x, y], []⟩) (fun _ s' => s' = s) (fun _ _ => False) s := by
  obtain ⟨c, dd, dat, sl⟩ := o
  obtain rfl : c = .type "dict" := hc
  obtain rfl : dat = .dict es n := hd
  obtain ⟨hh, g, dr, t, os⟩ := s
  dsimp only at ho
  repeat k_node
set_option maxHeartbeats 2000000 in
theorem ck_in {M : Model} {A : Around} {s : Shared} {a : Addr} {o : Obj} {x : Value} {es : Array (Int × Value)} {n : Nat} {tb : SetTable} (ho : s.heap.get? a = some o) (hc : o.cls = .type "set") (hd : o.data = .set es n tb) :
    wpAny M A (checkBoundCall "set.__contains__" ⟨[.ref a, x], []⟩) (fun _ s' => s' = s) (fun _ _ => False) s := by
  obtain ⟨c, dd, dat, sl⟩ := o
  obtain rfl : c = .type "set" := hc
  obtain rfl : dat = .set es n tb := hd
  obtain ⟨hh, g, dr, t, os⟩ := s
  dsimp only at ho
  repeat k_node
theorem entry_dget : entryFor table "dict.get" = some Builtin.«dict.get» := entryFor_of_tree (by kernel_rfl)
theorem get_bm {prog : Program} {w : World} {A : Around} {s : Shared} {q d : Addr} {f : Int → Option Value} {k : Int} {t : Tok} {dflt : Value} {R : Result → Shared → Prop}
    (hq : s.heap.get? q = some (bmObj "dict.get" d)) (hm : s.heap.MapOf (intKind prog w) d f) (hd : (d == sysModules) = false)
    (h : R (.ok (.ret ((f k).getD dflt))) { s with toks := s.toks + 1 }) :
    codeAny (model prog w) A (.call (.ref q) ⟨[.int k t, dflt], []⟩) R s := by
  obtain ⟨o, es, ep, ho, hc, hda, _⟩ := id hm
  refine call_bm hq (by decide +kernel) (ck_get ho hc.1 hda) ?_
  refine codeAny_builtin entry_dget ?_
  rw [Around.under_plainId (by decide +kernel)]
  exact meets_dict_get_default (intKind prog w) d (k := k) (by simp [intKind, Value.isInt]) hd dflt A R s ⟨f, hm, h⟩
theorem in_bm {prog : Program} {w : World} {A : Around} {s : Shared} {q a : Addr} {S : Int → Bool} {n : Nat} {k : Int} {t : Tok} {R : Result → Shared → Prop}
    (hq : s.heap.get? q = some (bmObj "set.__contains__" a)) (hS : s.heap.SetOf (intKind prog w) a S n)
    (h : R (.ok (.ret (.bool (S k)))) { s with toks := s.toks + 1 }) :
    codeAny (model prog w) A (.call (.ref q) ⟨[.int k t], []⟩) R s := by
  have hT : s.TypeIs (.ref a) "set" := hS.typeIs
  obtain ⟨o, es, ep, tb, ho, hc, hda, _⟩ := id hS
  refine call_bm hq (by decide +kernel) (ck_in ho hc.1 hda) ?_
  refine codeAny_builtin entry_set_contains ?_
  rw [Around.under_plainId (by decide +kernel)]
  unfold Builtin.«frozenset.__contains__» Builtin.Frozenset.oneOther
  simp only [List.isEmpty_nil, bind_assoc]
  unfold Builtin.Frozenset.addrOf Builtin.Frozenset.withSetAsKey setContains
  refine wpAny_bind (wpAny_pure ?_)
  try dsimp only
  refine wpAny_bind (wpAny_pure ?_)
  try dsimp only
  refine wpAny_bind (wpAny_tryCatch ?_)
  refine wpAny_holding ?_
  refine wpAny_bind ((intKind prog w).pyHash (k := k) (by simp [intKind, Value.isInt]) ?_)
  refine wpAny_bind (wpAny_setFind_of (knd := intKind prog w) (k := k) (s := { s with toks := s.toks + 1 }) (by simp [intKind, Value.isInt]) rfl hS fun r hr => ?_)
  refine wpAny_pure ?_
  show wpAny _ _ (ret (Value.bool r.isSome)) _ _ _
  rw [hr]
  exact wpAny_pure h
theorem ty_dg : typeOf (.builtin "dict.get") = pure (.type "method_descriptor") := by show builtinType _ = _; rw [builtinType_eq_fast]; kernel_rfl
set_option maxHeartbeats 2000000 in
theorem getAttr_dg {prog : Program} {w : World} {A : Around} {E : Value → Shared → Prop} {s : Shared} {a : Addr} {es : Array DictEntry} {k : Nat} {Q : Value → Shared → Prop}
    (hx : s.heap.get? a = some { cls := .type "dict", data := .dict es k }) (h : ∀ tk, Q (.ref s.heap.objs.size) { s with heap := s.heap.push (bmObj "dict.get" a), toks := tk }) :
    wpAny (model prog w) A (getAttr (.ref a) "get" true) Q E s := by
  obtain ⟨hh, g, dr, t, os⟩ := s
  dsimp only at hx h
  unfold getAttr getAttrBy
  repeat k_node
  refine nd_call ?_
  show codeAny _ _ (.call (.builtin "dict.__getattribute__") ⟨[.ref a, .str "get" t], []⟩) _ _
  refine codeAny_call_builtin F.slot_dict_getattribute.plain PySem.am_entry_dict_getattribute (F.slot_dict_getattribute.check _ _ _ _ _ _ _ _ ⟨_, hx, rfl⟩ (F.args_dict_getattribute_2 _ _) ?_)
  unfold Builtin.«object.__getattribute__»
  repeat k_node
  refine nd_call ?_
  show codeAny _ _ (.call (.builtin "method_descriptor.__get__") ⟨[.builtin "dict.get", .ref a, .type "dict"], []⟩) _ _
  refine codeAny_call_builtin slot_md.plain entry_md (slot_md.check _ _ _ _ _ _ _ _ ty_dg (args_md _ _ _) ?_)
  unfold Builtin.«method_descriptor.__get__»
  repeat k_node
  exact h _
end Mine
end
section
open PySem PySem.W PyProof.Rows
set_option maxRecDepth 100000
namespace Mine
noncomputable def PostJ (h₀ : Heap) (L : Addr) (wr : List Addr) (own : List (Addr × Obj)) (J : (Str → Option Value) → List (Addr × Obj) → Prop) (s₁ : Shared) (Q : Flow → Shared → Prop) (f : Flow) (s₂ : Shared) : Prop :=
  match f with
  | .ret v => Q (.ret v) s₂
  | .brk => Q .next s₂
  | _ => ∃ h' tk m' nx, s₂ = { s₁ with heap := h', toks := tk } ∧ Fr h₀ L h' m' ∧ News h₀ L h' (own ++ nx) ∧ (∀ p ∈ nx, p.1 ∉ wr) ∧ J m' nx
section
variable {prog : Program} {w : World} {A : Around} {E : Value → Shared → Prop} {s : Shared} {env : Env} {h₀ : Heap} {x : Str} {body : List Stmt} {Q : Flow → Shared → Prop}
theorem loopJ {I : Addr} {fp wr : List Addr} {n : Nat} {P : Nat → Value → Prop} {St : Nat → Heap → Prop} {m₀ : Str → Option Value} {news : List (Addr × Obj)} (J : Nat → (Str → Option Value) → List (Addr × Obj) → Prop)
    (W : Walks prog w A I fp wr n P St) (hLf : env.locals ∉ fp) (hwr : ∀ b ∈ wr, h₀.get? b = none) (hnw : ∀ p ∈ news, p.1 ∉ wr) (hst : St 0 s.heap) (F : Fr h₀ env.locals s.heap m₀) (N : News h₀ env.locals s.heap news) (hj : J 0 m₀ news)
    (turn : ∀ i v m₁ news₁ h tk own, i < n → P i v → J i m₁ news₁ → (∀ p ∈ news₁, p.1 ∉ wr) → (∀ p ∈ own, p.1 ∈ fp) → (∀ b ∈ wr, ∃ o, (b, o) ∈ own) → Fr h₀ env.locals h (fun y => if y = x then some v else m₁ y) → News h₀ env.locals h (own ++ news₁) →
      wpAny (model prog w) A (execs body env) (PostJ h₀ env.locals wr own (J (i + 1)) { s with heap := h, toks := tk } Q) E { s with heap := h, toks := tk })
    (live : ∀ i h, St i h → ∀ b ∈ wr, ∃ o, h.get? b = some o)
    (done : ∀ m₁ news₁ h tk, J n m₁ news₁ → Fr h₀ env.locals h m₁ → News h₀ env.locals h news₁ → Q .next { s with heap := h, toks := tk }) :
    LoopAtV prog w A h₀ env x body Q E (.ref I) s := by
  refine ⟨I, fp, wr, n, P, St, m₀, news, J, rfl, W, hLf, hwr, hnw, hst, F, N, hj, ?_, ?_⟩
  · rintro i v m₁ news₁ s₁ own ⟨hh', tk', rfl⟩ hin hP hJ hoff hown hal hall hst' F₁ N₁
    refine wpAny_mono (turn i v m₁ news₁ hh' tk' own hin hP hJ hoff hown (fun b hb => ?_) F₁ N₁) (fun f s₂ p => ?_) fun _ _ e => e
    · obtain ⟨o, ho⟩ := live _ _ hst' b hb
      exact ⟨o, hall b (W.sub b hb) (hwr b hb) o ho⟩
    · cases f with
      | ret v => exact .ret p
      | brk => exact .brk p
      | next => obtain ⟨h', tk, m', nx, e, F', N', ho, hj'⟩ := p; exact .next ⟨rfl, h', tk, m', nx, e, F', N', ho, hj'⟩
      | cont => obtain ⟨h', tk, m', nx, e, F', N', ho, hj'⟩ := p; exact .cont ⟨rfl, h', tk, m', nx, e, F', N', ho, hj'⟩
  · rintro h' tk m' news' F' N' _ hJ
    exact done m' news' h' tk hJ F' N'
/-- a range, up by ones -/
theorem rangeJ {r : Addr} {a₀ b₀ : Int} {t₀ u₀ v₀ : Tok} {n : Nat} {m₀ : Str → Option Value} {news : List (Addr × Obj)} (J : Nat → (Str → Option Value) → List (Addr × Obj) → Prop)
    (hh : A.handled = none) (hr : IsRange s.heap r a₀ b₀ 1 t₀ u₀ v₀) (hsmall : Builtin.Range.small a₀ b₀ 1 = true) (hn : Builtin.Range.rangeSize a₀ b₀ 1 = (n : Int)) (F : Fr h₀ env.locals s.heap m₀) (N : News h₀ env.locals s.heap news) (hj : J 0 m₀ news)
    (turn : ∀ i t m₁ news₁ h tk I oI, i < n → J i m₁ news₁ → (∀ p ∈ news₁, p.1 ≠ I) → Fr h₀ env.locals h (fun y => if y = x then some (.int (a₀ + i) t) else m₁ y) → News h₀ env.locals h ((I, oI) :: news₁) →
      wpAny (model prog w) A (execs body env) (PostJ h₀ env.locals [I] [(I, oI)] (J (i + 1)) { s with heap := h, toks := tk } Q) E { s with heap := h, toks := tk })
    (done : ∀ m₁ news₁ h tk, J n m₁ news₁ → Fr h₀ env.locals h m₁ → News h₀ env.locals h news₁ → Q .next { s with heap := h, toks := tk }) :
    wpAny (model prog w) A (pyIter (.ref r)) (fun it s₂ => LoopAtV prog w A h₀ env x body Q E it s₂) E s := by
  refine wpAny_pyIter_range hr hsmall ?_
  have W : Walks prog w A s.heap.objs.size [s.heap.objs.size] [s.heap.objs.size] n (fun i v => i < n ∧ ∃ t, v = .int (a₀ + i * 1) t)
      (fun i h => IsRangeIter h s.heap.objs.size (a₀ + (i : Nat) * 1) ((n : Int) - (i : Nat)) 1) := (Walks.range hh _ a₀ 1 n).bound
  refine loopJ J W ?_ ?_ ?_ (by show IsRangeIter _ _ _ _ _; rw [hn]; simpa using Heap.get?_push_size _ rfl) (F.push _) (fun p hp => ⟨Heap.get?_push_of_some _ (N p hp).1, (N p hp).2⟩) hj ?_ ?_ done
  · intro hm
    exact absurd F.ns.lt ((List.mem_singleton.mp hm) ▸ Nat.lt_irrefl _)
  · intro b hb
    rw [List.mem_singleton.mp hb]
    exact next_is_new F
  · intro p hp hI
    exact absurd (Heap.lt_size (N p hp).1) ((List.mem_singleton.mp hI) ▸ Nat.lt_irrefl _)
  · rintro i v m₁ news₁ h tk own hi ⟨_, t, rfl⟩ hJ hoff hown hlive F' N'
    obtain ⟨oI, hoI⟩ := hlive _ (List.mem_singleton.mpr rfl)
    have e : ∀ p ∈ own, p = (s.heap.objs.size, oI) := by
      intro p hp
      have h1 := List.mem_singleton.mp (hown p hp)
      have h2 := (N' p (List.mem_append_left _ hp)).1
      have h3 := (N' _ (List.mem_append_left _ hoI)).1
      rw [h1] at h2
      rw [h2] at h3
      exact Prod.ext h1 (Option.some.inj h3)
    have N2 : News h₀ env.locals h ((s.heap.objs.size, oI) :: news₁) := fun p hp => N' p ((List.mem_cons.mp hp).elim (fun e => e ▸ List.mem_append_left _ hoI) (List.mem_append_right _))
    have F2 : Fr h₀ env.locals h (fun y => if y = x then some (.int (a₀ + i) t) else m₁ y) := by simpa using F'
    refine wpAny_mono (turn i t m₁ news₁ h tk _ oI hi hJ (fun p hp q => hoff p hp (List.mem_singleton.mpr q)) F2 N2) (fun f s₂ p => ?_) fun _ _ e => e
    have go : (∃ h' tk' m' nx, s₂ = { ({ s with heap := h, toks := tk } : Shared) with heap := h', toks := tk' } ∧ Fr h₀ env.locals h' m' ∧ News h₀ env.locals h' ([(s.heap.objs.size, oI)] ++ nx) ∧ (∀ p ∈ nx, p.1 ∉ [s.heap.objs.size]) ∧ J (i + 1) m' nx) →
        ∃ h' tk' m' nx, s₂ = { ({ s with heap := h, toks := tk } : Shared) with heap := h', toks := tk' } ∧ Fr h₀ env.locals h' m' ∧ News h₀ env.locals h' (own ++ nx) ∧ (∀ p ∈ nx, p.1 ∉ [s.heap.objs.size]) ∧ J (i + 1) m' nx := by
      rintro ⟨h', tk', m', nx, e1, F3, N3, o3, j3⟩
      exact ⟨h', tk', m', nx, e1, F3, fun p hp => N3 p ((List.mem_append.mp hp).elim (fun q => List.mem_append_left _ (by rw [e p q]; exact List.mem_singleton.mpr rfl)) (List.mem_append_right _)), o3, j3⟩
    cases f with
    | ret v => exact p
    | brk => exact p
    | next => exact go p
    | cont => exact go p
  · intro i h hst b hb
    rw [List.mem_singleton.mp hb]
    exact ⟨_, hst⟩
/-- a list that stands in the base -/
theorem listJ {l : Addr} {vs : List Value} {m₀ : Str → Option Value} {news : List (Addr × Obj)} (J : Nat → (Str → Option Value) → List (Addr × Obj) → Prop)
    (hh : A.handled = none) (hl : h₀.IsList l vs.toArray) (F : Fr h₀ env.locals s.heap m₀) (N : News h₀ env.locals s.heap news) (hj : J 0 m₀ news)
    (turn : ∀ i v m₁ news₁ h tk I oI, vs[i]? = some v → J i m₁ news₁ → (∀ p ∈ news₁, p.1 ≠ I) → Fr h₀ env.locals h (fun y => if y = x then some v else m₁ y) → News h₀ env.locals h ((I, oI) :: news₁) →
      wpAny (model prog w) A (execs body env) (PostJ h₀ env.locals [I] [(I, oI)] (J (i + 1)) { s with heap := h, toks := tk } Q) E { s with heap := h, toks := tk })
    (done : ∀ m₁ news₁ h tk, J vs.length m₁ news₁ → Fr h₀ env.locals h m₁ → News h₀ env.locals h news₁ → Q .next { s with heap := h, toks := tk }) :
    wpAny (model prog w) A (pyIter (.ref l)) (fun it s₂ => LoopAtV prog w A h₀ env x body Q E it s₂) E s := by
  have hls : s.heap.IsList l vs.toArray := hl.at fun o e => F.keep l o e
  obtain ⟨ol, hol, _⟩ := id hl
  have hlt : l < h₀.objs.size := Heap.lt_size hol
  have hne : l ≠ s.heap.objs.size := Nat.ne_of_lt (Nat.lt_trans (Nat.lt_of_lt_of_le hlt F.above) F.ns.lt)
  refine wpAny_pyIter_list hls ?_
  have W := Walks.list (prog := prog) (w := w) hh s.heap.objs.size l hne vs.toArray
  have hlen : vs.toArray.size = vs.length := by simp
  rw [hlen] at W
  refine loopJ J W ?_ ?_ ?_ ⟨⟨_, Heap.get?_push_size _ rfl, rfl, rfl⟩, hls.at fun o e => Heap.get?_push_of_some _ e⟩ (F.push _) (fun p hp => ⟨Heap.get?_push_of_some _ (N p hp).1, (N p hp).2⟩) hj ?_ ?_ done
  · intro hm
    rcases List.mem_cons.mp hm with e | hm
    · exact absurd F.ns.lt (e ▸ Nat.lt_irrefl _)
    · exact absurd (Nat.lt_of_lt_of_le hlt F.above) ((List.mem_singleton.mp hm) ▸ Nat.lt_irrefl _)
  · intro b hb
    rw [List.mem_singleton.mp hb]
    exact next_is_new F
  · intro p hp hI
    exact absurd (Heap.lt_size (N p hp).1) ((List.mem_singleton.mp hI) ▸ Nat.lt_irrefl _)
  · intro i v m₁ news₁ h tk own hi hP hJ hoff hown hlive F' N'
    obtain ⟨oI, hoI⟩ := hlive _ (List.mem_singleton.mpr rfl)
    have e : ∀ p ∈ own, p = (s.heap.objs.size, oI) := by
      intro p hp
      have h0 := N' p (List.mem_append_left _ hp)
      have h1 : p.1 = s.heap.objs.size := by
        rcases List.mem_cons.mp (hown p hp) with h1 | h1
        · exact h1
        · have h2 := List.mem_singleton.mp h1
          have h3 := h0.2.2
          rw [h2, hol] at h3; cases h3
      have h2 := h0.1
      have h3 := (N' _ (List.mem_append_left _ hoI)).1
      rw [h1] at h2
      rw [h2] at h3
      exact Prod.ext h1 (Option.some.inj h3)
    have N2 : News h₀ env.locals h ((s.heap.objs.size, oI) :: news₁) := fun p hp => N' p ((List.mem_cons.mp hp).elim (fun e => e ▸ List.mem_append_left _ hoI) (List.mem_append_right _))
    refine wpAny_mono (turn i v m₁ news₁ h tk _ oI (by simpa using hP) hJ (fun p hp q => hoff p hp (List.mem_singleton.mpr q)) F' N2) (fun f s₂ p => ?_) fun _ _ e => e
    have go : (∃ h' tk' m' nx, s₂ = { ({ s with heap := h, toks := tk } : Shared) with heap := h', toks := tk' } ∧ Fr h₀ env.locals h' m' ∧ News h₀ env.locals h' ([(s.heap.objs.size, oI)] ++ nx) ∧ (∀ p ∈ nx, p.1 ∉ [s.heap.objs.size]) ∧ J (i + 1) m' nx) →
        ∃ h' tk' m' nx, s₂ = { ({ s with heap := h, toks := tk } : Shared) with heap := h', toks := tk' } ∧ Fr h₀ env.locals h' m' ∧ News h₀ env.locals h' (own ++ nx) ∧ (∀ p ∈ nx, p.1 ∉ [s.heap.objs.size]) ∧ J (i + 1) m' nx := by
      rintro ⟨h', tk', m', nx, e1, F3, N3, o3, j3⟩
      exact ⟨h', tk', m', nx, e1, F3, fun p hp => N3 p ((List.mem_append.mp hp).elim (fun q => List.mem_append_left _ (by rw [e p q]; exact List.mem_singleton.mpr rfl)) (List.mem_append_right _)), o3, j3⟩
    cases f with
    | ret v => exact p
    | brk => exact p
    | next => exact go p
    | cont => exact go p
  · intro i h hst b hb
    rw [List.mem_singleton.mp hb]
    obtain ⟨o, ho, _⟩ := hst.1
    exact ⟨o, ho⟩
end
end Mine
end
section
open PySem PySem.W PySem.Calls PyProof.Rows
set_option maxRecDepth 100000
namespace Mine
/-- an exact dict's object with int keys, its pairs in order -/
noncomputable def DObj (prog : Program) (w : World) (o : Obj) (kvs : List (Int × Value)) : Prop :=
  ∃ es ep, o.ExactDict ∧ o.data = .dict es ep ∧ KeysOf (intKind prog w) es ∧ Pairs (intKind prog w) es.toList kvs ∧ (kvs.map (·.1)).Nodup
section
variable {prog : Program} {w : World} {A : Around} {E : Value → Shared → Prop} {s : Shared} {h₀ : Heap} {L D : Addr} {m : Str → Option Value} {o : Obj} {kvs : List (Int × Value)} {pre post : List (Addr × Obj)}
theorem DObj.at {h : Heap} (x : DObj prog w o kvs) (ho : h.get? D = some o) : h.DictOf (intKind prog w) D kvs := let ⟨es, ep, a, b, c, d, e⟩ := x; ⟨o, es, ep, ho, a, b, c, d, e⟩
theorem DObj.of {h : Heap} (x : h.DictOf (intKind prog w) D kvs) : ∃ o, h.get? D = some o ∧ DObj prog w o kvs := let ⟨o, es, ep, ho, a, b, c, d, e⟩ := x; ⟨o, ho, es, ep, a, b, c, d, e⟩
theorem DObj.new : DObj prog w (dictOf [] 0) [] := by
  obtain ⟨o, es, ep, ho, a, b, c, d, e⟩ := Heap.DictOf.new (knd := intKind prog w) (default : Heap)
  have : o = dictOf [] 0 := by
    rw [Heap.get?_push_size _ rfl] at ho
    exact (Option.some.inj ho).symm
  subst this
  exact ⟨es, ep, a, b, c, d, e⟩
theorem DObj.mapOf {h : Heap} (x : DObj prog w o kvs) (ho : h.get? D = some o) : h.MapOf (intKind prog w) D (valueAt kvs) := (x.at ho).mapOf
/-- a store into a dict of the ledger -/
theorem setItem_D {k : Int} {t : Tok} {v : Value} {Q : Unit → Shared → Prop} (F : Fr h₀ L s.heap m) (N : News h₀ L s.heap (pre ++ (D, o) :: post)) (h1 : ∀ p ∈ pre, p.1 ≠ D) (h2 : ∀ p ∈ post, p.1 ≠ D) (hd : DObj prog w o kvs) (hlen : kvs.length ≤ sizeLine)
    (hQ : ∀ h' o', Fr h₀ L h' m → News h₀ L h' (pre ++ (D, o') :: post) → DObj prog w o' (stored kvs k v) → Q () { s with heap := h', toks := s.toks + 1 }) :
    wpAny (model prog w) A (setItem (.ref D) (.int k t) v) Q E s := by
  have z := N (D, o) (by simp)
  refine wpAny_setItem_pairs (knd := intKind prog w) (k := k) (hsz := hlen) (by simp [intKind, Value.isInt]) (hd.at z.1) fun h' hm' hs' => ?_
  obtain ⟨o', ho', hd'⟩ := DObj.of hm'
  refine hQ h' o' (F.change hs' z.2.1 z.2.2) (fun p hp => ?_) hd'
  rcases List.mem_append.mp hp with q | q
  · have P := N p (List.mem_append_left _ q)
    exact ⟨(hs'.2 p.1 (h1 p q)).trans P.1, P.2⟩
  · rcases List.mem_cons.mp q with rfl | q
    · exact ⟨ho', z.2⟩
    · have P := N p (List.mem_append_right _ (.tail _ q))
      exact ⟨(hs'.2 p.1 (h2 p q)).trans P.1, P.2⟩
end
end Mine
end
section
namespace Mine
/-- the two lists agree at i, j, within the second's window -/
noncomputable def cell (a b : List Int) (blo bhi : Nat) (i j : Nat) : Prop := blo ≤ j ∧ j < bhi ∧ ∃ v, a[i]? = some v ∧ b[j]? = some v
open Classical in
/-- the length of the common suffix that ends at a[alo + n] and b[j], as the rows reckon it -/
noncomputable def row (a b : List Int) (alo blo bhi : Nat) : Nat → Nat → Nat
  | 0, j => if cell a b blo bhi alo j then 1 else 0
  | n + 1, j => if cell a b blo bhi (alo + (n + 1)) j then (match j with | 0 => 0 | j' + 1 => row a b alo blo bhi n j') + 1 else 0
/-- a row's number tells equal stretches -/
theorem row_spec {a b : List Int} {alo blo bhi : Nat} : ∀ n j k, row a b alo blo bhi n j = k → k ≤ n + 1 ∧ (k ≠ 0 → k ≤ j + 1 ∧ blo + k ≤ j + 1 ∧ j < bhi) ∧ (∀ t, t < k → ∃ v, a[alo + n - t]? = some v ∧ b[j - t]? = some v)
  | 0, j, k, h => by
    unfold row at h
    split at h
    · rename_i c
      subst h
      obtain ⟨c1, c2, v, c3, c4⟩ := c
      refine ⟨by omega, fun _ => ⟨by omega, by omega, c2⟩, fun t ht => ?_⟩
      obtain rfl : t = 0 := by omega
      exact ⟨v, by simpa using c3, by simpa using c4⟩
    · subst h; exact ⟨by omega, fun h => absurd rfl h, fun t ht => absurd ht (by omega)⟩
  | n + 1, j, k, h => by
    unfold row at h
    split at h
    · rename_i c
      obtain ⟨c1, c2, v, c3, c4⟩ := c
      cases j with
      | zero =>
        simp only at h
        subst h
        refine ⟨by omega, fun _ => ⟨by omega, by omega, c2⟩, fun t ht => ?_⟩
        obtain rfl : t = 0 := by omega
        exact ⟨v, by simpa using c3, by simpa using c4⟩
      | succ j' =>
        simp only at h
        obtain ⟨h1, h2, h3⟩ := row_spec (a := a) (b := b) (alo := alo) (blo := blo) (bhi := bhi) n j' _ rfl
        subst h
        refine ⟨by omega, fun _ => ?_, fun t ht => ?_⟩
        · by_cases hz : row a b alo blo bhi n j' = 0
          · rw [hz]; exact ⟨by omega, by omega, c2⟩
          · have := h2 hz; exact ⟨by omega, by omega, c2⟩
        · cases t with
          | zero => exact ⟨v, by simpa using c3, by simpa using c4⟩
          | succ t' =>
            obtain ⟨v', e1, e2⟩ := h3 t' (by omega)
            refine ⟨v', ?_, ?_⟩
            · rw [show alo + (n + 1) - (t' + 1) = alo + n - t' by omega]; exact e1
            · rw [show j' + 1 - (t' + 1) = j' - t' by omega]; exact e2
    · subst h; exact ⟨by omega, fun h => absurd rfl h, fun t ht => absurd ht (by omega)⟩
end Mine
end
section
open PySem PySem.W PySem.Calls PyProof.Rows
namespace Mine
/-- pairs of a dict as ints -/
noncomputable def storedI (kv : List (Int × Int)) (j k : Int) : List (Int × Int) := if (kv.any fun p => decide (p.1 = j)) = true then kv.map (fun p => if p.1 = j then (p.1, k) else p) else kv ++ [(j, k)]
noncomputable def lookI (kv : List (Int × Int)) (j : Int) : Int := ((kv.find? fun p => decide (p.1 = j)).map (·.2)).getD 0
inductive IV : List (Int × Value) → List (Int × Int) → Prop
  | nil : IV [] []
  | cons {j k : Int} {t : Tok} {vs : List (Int × Value)} {kv : List (Int × Int)} : IV vs kv → IV ((j, .int k t) :: vs) ((j, k) :: kv)
theorem IV.length {vs kv} (h : IV vs kv) : vs.length = kv.length := by induction h with
  | nil => rfl
  | cons _ ih => simp [ih]
theorem IV.any {vs kv} (h : IV vs kv) (j : Int) : (vs.any fun p => decide (p.1 = j)) = (kv.any fun p => decide (p.1 = j)) := by induction h with
  | nil => rfl
  | cons _ ih => simp [ih]
theorem IV.append {vs kv} (h : IV vs kv) (j k : Int) (t : Tok) : IV (vs ++ [(j, .int k t)]) (kv ++ [(j, k)]) := by induction h with
  | nil => exact .cons .nil
  | cons _ ih => exact .cons ih
theorem IV.map {vs kv} (h : IV vs kv) (j k : Int) (t : Tok) : IV (vs.map fun p => if p.1 = j then (p.1, .int k t) else p) (kv.map fun p => if p.1 = j then (p.1, k) else p) := by induction h with
  | nil => exact .nil
  | @cons j' k' t' vs kv _ ih =>
    simp only [List.map_cons]
    by_cases e : j' = j
    · simp only [e, if_true]; exact .cons ih
    · simp only [e, if_false]; exact .cons ih
theorem IV.stored {vs kv} (h : IV vs kv) (j k : Int) (t : Tok) : IV (PySem.stored vs j (.int k t)) (storedI kv j k) := by
  unfold PySem.stored storedI
  rw [h.any j]
  split
  · exact h.map j k t
  · exact h.append j k t
theorem IV.value {vs kv} (h : IV vs kv) (j : Int) : (valueAt vs j = none ∧ lookI kv j = 0) ∨ ∃ t, valueAt vs j = some (.int (lookI kv j) t) := by
  unfold valueAt lookI
  induction h with
  | nil => exact .inl ⟨rfl, rfl⟩
  | @cons j' k' t' vs kv _ ih =>
    simp only [List.find?_cons]
    by_cases e : j' = j
    · simp only [e, decide_true]; exact .inr ⟨t', by simp⟩
    · simp only [e, decide_false]; exact ih
theorem storedI_length (kv : List (Int × Int)) (j k : Int) : (storedI kv j k).length ≤ kv.length + 1 := by
  unfold storedI; split <;> simp
/-- the state of the inner loop: the best so far, the new row -/
structure St where
  bi : Int
  bj : Int
  bk : Int
  kv : List (Int × Int)
noncomputable def St.turn (prev : Int → Int) (i : Int) (st : St) (j : Int) : St :=
  let k := prev (j - 1) + 1
  if k > st.bk then ⟨i - k + 1, j - k + 1, k, storedI st.kv j k⟩ else ⟨st.bi, st.bj, st.bk, storedI st.kv j k⟩
noncomputable def inner (prev : Int → Int) (blo bhi i : Int) : List Int → St → St
  | [], st => st
  | j :: r, st => if j < blo then inner prev blo bhi i r st else if j ≥ bhi then st else inner prev blo bhi i r (st.turn prev i j)
end Mine
end
theorem Mine.flush0 {M : PySem.Model} {A : PySem.Around} {env : PySem.Env} {E : PySem.Value → PySem.Shared → Prop} {Q : PySem.Flow → PySem.Shared → Prop} {s : PySem.Shared} (h : Q .next s) : PySem.wpAny M A (PySem.execs [] env) Q E s := by first | (walk1; exact h) | exact PySem.wpAny_execs_nil h
section
open PySem PySem.W PySem.Calls PyProof.Rows
set_option maxRecDepth 100000
namespace Mine
theorem fill : (fun (_ : Params) => (PySem.Challenge.rw_mt0013_01.foot, K)) = (fun _ => (PySem.Challenge.rw_mt0013_01.foot, K)) := by k_fill; rfl
noncomputable def forBody : Stmt → List Stmt
  | .For _ _ b _ _ => b
  | _ => []
noncomputable def OB : List Stmt := forBody (nth B196 7)
noncomputable def IB : List Stmt := forBody (nth OB 2)
noncomputable def over (S : List (Str × Value)) (m : Str → Option Value) : Str → Option Value := fun z => match S.lookup z with
  | some v => some v
  | none => m z
theorem keeps_bm {M : Model} {q a : Addr} {id : String} (h : Heap) (X : h.get? q = some (bmObj id a)) : ∃ k, (k = Keeper.frame ∨ k = Keeper.machine ∨ k = Keeper.boundFrame) ∧ Looks M h (keeperOf (.ref q)) k :=
  ⟨.machine, .inr (.inl rfl), (Looks.ld (part := none) X).andThen .now⟩
theorem callWith_bm {M : Model} {A : Around} {E : Value → Shared → Prop} {s : Shared} {env : Env} {pos : Pos} {first : List Value} {Q : Value → Shared → Prop} {q a : Addr} {id : String} {e : Expr} {rest : List Expr}
    (h : wpAny M A (spliced (backTo pos (starEach (e :: rest) env))) (fun vs s₁ => s₁.heap.get? q = some (bmObj id a) ∧ wpAny M A (call (.ref q) (first ++ vs)) Q E s₁) E s)
    (he : starEach (e :: rest) env = (false, eval e env) :: starEach rest env := by rfl) (hplain : (backTo pos (starEach rest env)).any (·.1) = false := by rfl) :
    wpAny M A (callWith pos (.ref q) first (backTo pos (starEach (e :: rest) env)) []) Q E s := by
  rw [he] at h ⊢
  exact callWith_of (by show ((false || (backTo pos (starEach rest env)).any (·.1)) || false) = false; rw [hplain]; rfl) keeps_bm (evalArgs_plain h)
section
variable {prog : Program} {w : World} {A : Around} {E : Value → Shared → Prop} {s : Shared} {h₀ : Heap} {L d q : Addr} {m : Str → Option Value} {news : List (Addr × Obj)} {g : Obj → List (Addr × Obj)} {o : Obj} {vs : List (Int × Value)} {kv : List (Int × Int)} {k : Int} {t u : Tok}
theorem callWith_bmN {M : Model} {env : Env} {pos : Pos} {first : List Value} {Q : Value → Shared → Prop} {a : Addr} {id : String} {e : Expr} {rest : List Expr} (uN : News h₀ L s.heap news) (uq : (q, bmObj id a) ∈ news)
    (h : wpAny M A (spliced (backTo pos (starEach (e :: rest) env))) (fun vs s₁ => s₁.heap.get? q = some (bmObj id a) ∧ wpAny M A (call (.ref q) (first ++ vs)) Q E s₁) E s)
    (he : starEach (e :: rest) env = (false, eval e env) :: starEach rest env := by rfl) (hplain : (backTo pos (starEach rest env)).any (·.1) = false := by rfl) :
    wpAny M A (callWith pos (.ref q) first (backTo pos (starEach (e :: rest) env)) []) Q E s := callWith_bm h he hplain
theorem get_bmN {Q : Value → Shared → Prop} (N : News h₀ L s.heap news) (hq : (q, bmObj "dict.get" d) ∈ news) (hp : (d, o) ∈ news) (hd : DObj prog w o vs) (hv : IV vs kv) (hne : (d == sysModules) = false)
    (h : ∀ t', Q (.int (lookI kv k) t') { s with toks := s.toks + 1 }) : wpAny (model prog w) A (call (.ref q) [.int k t, .int 0 u]) Q E s := by
  refine wpAny_call (get_bm (f := valueAt vs) (N _ hq).1 (hd.mapOf (N _ hp).1) hne ?_)
  rcases hv.value k with ⟨e1, e2⟩ | ⟨t', e1⟩
  · rw [e1]; have := h u; rw [e2] at this; exact this
  · rw [e1]; exact h t'
theorem setItem_DN {v : Int} {Q : Unit → Shared → Prop} (F : Fr h₀ L s.heap m) (N : News h₀ L s.heap news) (U : UpdF d o news g) (hd : DObj prog w o vs) (hv : IV vs kv) (hlen : kv.length ≤ 100000)
    (hQ : ∀ h' o' vs', Fr h₀ L h' m → News h₀ L h' (g o') → DObj prog w o' vs' → IV vs' (storedI kv k v) → Q () { s with heap := h', toks := s.toks + 1 }) :
    wpAny (model prog w) A (setItem (.ref d) (.int k t) (.int v u)) Q E s := by
  obtain ⟨pre, post, rfl, hg, a, b⟩ := U.split
  refine setItem_D F N a b hd (by have := hv.length; have := sizeLine_eq; omega) fun h' o' F' N' hd' => hQ h' o' _ F' (hg o' ▸ N') hd' (hv.stored k v u)
end
local macro_rules | `(tactic| k_all) => `(tactic| assumption)
/-- the names the inner loop reads and stores -/
noncomputable abbrev inS (i blo bhi bi bj bk : Value) (D2 q : Addr) : List (Str × Value) := [(Str.ofString "i", i), (Str.ofString "blo", blo), (Str.ofString "bhi", bhi), (Str.ofString "besti", bi), (Str.ofString "bestj", bj), (Str.ofString "bestsize", bk), (Str.ofString "newj2len", .ref D2), (Str.ofString "j2lenget", .ref q)]
theorem over_ne {n : Str} {v : Value} {S : List (Str × Value)} {m : Str → Option Value} {z : Str} (h : z ≠ n) : over ((n, v) :: S) m z = over S m z := by
  unfold over
  rw [List.lookup_cons, beq_false_of_ne h]
theorem over_eq {n : Str} {v : Value} {S : List (Str × Value)} {m : Str → Option Value} : over ((n, v) :: S) m n = some v := by
  unfold over
  rw [List.lookup_cons, beq_self_eq_true]
theorem map_k {i blo bhi bi bj bk k j : Value} {D2 q : Addr} {m : Str → Option Value} :
    (fun y => if y = Str.ofString "k" then some k else if y = Str.ofString "j" then some j else over (inS i blo bhi bi bj bk D2 q) m y) =
      over (inS i blo bhi bi bj bk D2 q) (fun y => if y = Str.ofString "k" then some k else if y = Str.ofString "j" then some j else m y) := by
  funext y
  by_cases h1 : y = Str.ofString "k"
  · subst h1; rfl
  by_cases h2 : y = Str.ofString "j"
  · subst h2; rfl
  simp only [if_neg h1, if_neg h2]
  unfold over
  split <;> simp [h1, h2]
theorem map_b {i blo bhi bi bj bk k j a b c : Value} {D2 q : Addr} {m : Str → Option Value} :
    (fun y => if y = Str.ofString "besti" then some a else if y = Str.ofString "bestj" then some b else if y = Str.ofString "bestsize" then some c else if y = Str.ofString "k" then some k else if y = Str.ofString "j" then some j else over (inS i blo bhi bi bj bk D2 q) m y) =
      over (inS i blo bhi a b c D2 q) (fun y => if y = Str.ofString "k" then some k else if y = Str.ofString "j" then some j else m y) := by
  funext y
  by_cases h1 : y = Str.ofString "bestsize"
  · subst h1; rfl
  by_cases h2 : y = Str.ofString "bestj"
  · subst h2; rfl
  by_cases h3 : y = Str.ofString "besti"
  · subst h3; rfl
  simp only [if_neg h3, if_neg h2, if_neg h1]
  have := congrFun (map_k (i := i) (blo := blo) (bhi := bhi) (bi := bi) (bj := bj) (bk := bk) (k := k) (j := j) (D2 := D2) (q := q) (m := m)) y
  refine this.trans ?_
  unfold inS
  by_cases g1 : y = Str.ofString "i"
  · subst g1; rfl
  by_cases g2 : y = Str.ofString "blo"
  · subst g2; rfl
  by_cases g3 : y = Str.ofString "bhi"
  · subst g3; rfl
  rw [over_ne g1, over_ne g2, over_ne g3, over_ne h3, over_ne h2, over_ne h1, over_ne g1, over_ne g2, over_ne g3, over_ne h3, over_ne h2, over_ne h1]
set_option maxHeartbeats 4000000 in
theorem inner_turn {w : World} {e1 e2 : Env} {E : Value → Shared → Prop} {s : Shared} {g : Heap} {L : Addr} {m mg mb : Str → Option Value} {mean : ExcName → Option Value}
    {D1 D2 q I : Addr} {o1 o2 oI : Obj} {post : List (Addr × Obj)} {Q : Flow → Shared → Prop} {j i blo bhi bi bj bk : Int} {tj t1 t2 t3 t4 t5 t6 : Tok} {vs1 vs2 : List (Int × Value)} {kv1 kv2 : List (Int × Int)}
    (X : (K w.params).In g) (T : Top qv (looseW qv loose) mean mg mb g)
    (F : Fr g L s.heap (fun y => if y = Str.ofString "j" then some (.int j tj) else over (inS (.int i t1) (.int blo t2) (.int bhi t3) (.int bi t4) (.int bj t5) (.int bk t6) D2 q) m y))
    (N : News g L s.heap ((I, oI) :: (D2, o2) :: (q, bmObj "dict.get" D1) :: (D1, o1) :: post))
    (hd1 : DObj pw w o1 vs1) (hv1 : IV vs1 kv1) (hd2 : DObj pw w o2 vs2) (hv2 : IV vs2 kv2) (hne : (D1 == sysModules) = false) (hlen : kv2.length ≤ 100000)
    (n1 : I ≠ D2) (n2 : q ≠ D2) (n3 : D1 ≠ D2) (n4 : ∀ p ∈ post, p.1 ≠ D2)
    (kc : j < blo → Q .cont s) (kb : ¬ j < blo → j ≥ bhi → Q .brk s)
    (kn : ¬ j < blo → ¬ j ≥ bhi → ∀ h' tk o' vs' u4 u5 u6 m', Fr g L h' (over (inS (.int i t1) (.int blo t2) (.int bhi t3) (.int (St.turn (lookI kv1) i ⟨bi, bj, bk, kv2⟩ j).bi u4) (.int (St.turn (lookI kv1) i ⟨bi, bj, bk, kv2⟩ j).bj u5) (.int (St.turn (lookI kv1) i ⟨bi, bj, bk, kv2⟩ j).bk u6) D2 q) m') →
      (∀ z, z ≠ Str.ofString "k" → z ≠ Str.ofString "j" → m' z = m z) →
      News g L h' ((I, oI) :: (D2, o') :: (q, bmObj "dict.get" D1) :: (D1, o1) :: post) → DObj pw w o' vs' → IV vs' (St.turn (lookI kv1) i ⟨bi, bj, bk, kv2⟩ j).kv → Q .next { s with heap := h', toks := tk }) :
    wpAny (model pw w) (((callerA.deeper e1).deeper e2).deeper (envOf (Str.ofString "SequenceMatcher.find_longest_match") S196 L 196 (.ref 195))) (execs IB (envOf (Str.ofString "SequenceMatcher.find_longest_match") S196 L 196 (.ref 195))) Q E s := by
  conv in IB => whnf
  show wpAny _ _ (execs _ _) _ _ _
  repeat' (first | (first | (k_here; (with_reducible show wpAny _ _ (setItem (Value.ref _) (Value.int _ _) _) _ _ _); k_dflt (refine setItem_DN (by k_asm) (by k_asm) (by k_updF) (by k_asm) (by k_asm) (by k_asm) ?_); intro h' o' vs' F' N' hd' hv'; (try dsimp only at N')) | (k_here; (with_reducible show wpAny _ _ (call (Value.ref _) [Value.int _ _, Value.int 0 _]) _ _ _); k_dflt (refine get_bmN (by k_asm) (by k_mem) (by k_mem) (by k_asm) (by k_asm) (by k_asm) ?_); intro t') | (k_here; (with_reducible show wpAny _ _ (callWith _ (Value.ref _) _ _ _) _ _ _); k_dflt (refine callWith_bmN (by k_asm) (by k_mem) ?_)) | walk1) | (dsimp only; (first | (k_here; (with_reducible show wpAny _ _ (setItem (Value.ref _) (Value.int _ _) _) _ _ _); k_dflt (refine setItem_DN (by k_asm) (by k_asm) (by k_updF) (by k_asm) (by k_asm) (by k_asm) ?_); intro h' o' vs' F' N' hd' hv'; (try dsimp only at N')) | (k_here; (with_reducible show wpAny _ _ (call (Value.ref _) [Value.int _ _, Value.int 0 _]) _ _ _); k_dflt (refine get_bmN (by k_asm) (by k_mem) (by k_mem) (by k_asm) (by k_asm) (by k_asm) ?_); intro t') | (k_here; (with_reducible show wpAny _ _ (callWith _ (Value.ref _) _ _ _) _ _ _); k_dflt (refine callWith_bmN (by k_asm) (by k_mem) ?_)) | walk1)))
  · rename_i h; exact kc (by simpa using h)
  · rename_i h1 h2; exact kb (by simpa using h1) (by simpa using h2)
  · exact (N (q, _) (by simp)).1
  · rename Fr g L _ _ => F9
    rename News g L _ _ => N9
    rename ¬ (j < blo) => h0
    rename ¬ (bhi ≤ j) => h1
    rename IV _ (storedI _ _ _) => hv9
    rename DObj pw w _ _ => hd9
    rename bk < _ => hb
    have e : St.turn (lookI kv1) i ⟨bi, bj, bk, kv2⟩ j = ⟨i - (lookI kv1 (j - 1) + 1) + 1, j - (lookI kv1 (j - 1) + 1) + 1, lookI kv1 (j - 1) + 1, storedI kv2 j (lookI kv1 (j - 1) + 1)⟩ := by
      unfold St.turn; simp only; rw [if_pos hb]
    rw [map_b] at F9
    refine kn h0 h1 _ _ _ _ _ _ _ _ (by rw [e]; exact F9) (fun z z1 z2 => by simp [z1, z2]) (fun p hp => N9 p (.tail _ hp)) hd9 (by rw [e]; exact hv9)
  · rename Fr g L _ _ => F9
    rename News g L _ _ => N9
    rename ¬ (j < blo) => h0
    rename ¬ (bhi ≤ j) => h1
    rename IV _ (storedI _ _ _) => hv9
    rename DObj pw w _ _ => hd9
    rename ¬ (bk < _) => hb
    have e : St.turn (lookI kv1) i ⟨bi, bj, bk, kv2⟩ j = ⟨bi, bj, bk, storedI kv2 j (lookI kv1 (j - 1) + 1)⟩ := by
      unfold St.turn; simp only; rw [if_neg hb]
    rw [map_k] at F9
    refine kn h0 h1 _ _ _ _ _ _ _ _ (by rw [e]; exact F9) (fun z z1 z2 => by simp [z1, z2]) N9 hd9 (by rw [e]; exact hv9)
end Mine
end
section
open PySem PySem.W PySem.Calls PyProof.Rows
set_option maxRecDepth 100000
namespace Mine
theorem map_j {i blo bhi bi bj bk j : Value} {D2 q : Addr} {m : Str → Option Value} :
    (fun y => if y = Str.ofString "j" then some j else over (inS i blo bhi bi bj bk D2 q) m y) =
      over (inS i blo bhi bi bj bk D2 q) (fun y => if y = Str.ofString "j" then some j else m y) := by
  funext y
  by_cases h2 : y = Str.ofString "j"
  · subst h2; rfl
  simp only [if_neg h2]
  unfold over
  split <;> simp [h2]
noncomputable abbrev envF (L : Addr) : Env := envOf (Str.ofString "SequenceMatcher.find_longest_match") S196 L 196 (.ref 195)
theorem inner_loop {w : World} {e1 e2 : Env} {E : Value → Shared → Prop} {s : Shared} {g : Heap} {L lj : Addr} {m mg mb : Str → Option Value} {mean : ExcName → Option Value} {vj : List Value} {js : List Int}
    {D1 D2 q : Addr} {o1 o2 : Obj} {post : List (Addr × Obj)} {Q : Flow → Shared → Prop} {i blo bhi : Int} {st : St} {t1 t2 t3 t4 t5 t6 : Tok} {vs1 vs2 : List (Int × Value)} {kv1 : List (Int × Int)}
    (X : (K w.params).In g) (T : Top qv (looseW qv loose) mean mg mb g)
    (F : Fr g L s.heap (over (inS (.int i t1) (.int blo t2) (.int bhi t3) (.int st.bi t4) (.int st.bj t5) (.int st.bk t6) D2 q) m))
    (N : News g L s.heap ((D2, o2) :: (q, bmObj "dict.get" D1) :: (D1, o1) :: post))
    (hl : g.IsList lj vj.toArray) (hj : IntsAre vj js)
    (hd1 : DObj pw w o1 vs1) (hv1 : IV vs1 kv1) (hd2 : DObj pw w o2 vs2) (hv2 : IV vs2 st.kv) (hne : (D1 == sysModules) = false) (hlen : st.kv.length + js.length ≤ 100000)
    (n2 : q ≠ D2) (n3 : D1 ≠ D2) (n4 : ∀ p ∈ post, p.1 ≠ D2)
    (done : ∀ h' tk o' vs' u4 u5 u6 m', Fr g L h' (over (inS (.int i t1) (.int blo t2) (.int bhi t3) (.int (inner (lookI kv1) blo bhi i js st).bi u4) (.int (inner (lookI kv1) blo bhi i js st).bj u5) (.int (inner (lookI kv1) blo bhi i js st).bk u6) D2 q) m') →
      (∀ z, z ≠ Str.ofString "k" → z ≠ Str.ofString "j" → m' z = m z) →
      News g L h' ((D2, o') :: (q, bmObj "dict.get" D1) :: (D1, o1) :: post) → DObj pw w o' vs' → IV vs' (inner (lookI kv1) blo bhi i js st).kv → Q .next { s with heap := h', toks := tk }) :
    wpAny (model pw w) (((callerA.deeper e1).deeper e2).deeper (envF L)) (pyIter (.ref lj)) (fun it s₂ => LoopAtV pw w (((callerA.deeper e1).deeper e2).deeper (envF L)) g (envF L) (Str.ofString "j") IB Q E it s₂) E s := by
  refine listJ (h₀ := g) (env := envF L) (fun idx mm nx => ∃ (st' : St) (o' : Obj) (vs' : List (Int × Value)) (u4 u5 u6 : Tok) (m' : Str → Option Value),
    mm = over (inS (.int i t1) (.int blo t2) (.int bhi t3) (.int st'.bi u4) (.int st'.bj u5) (.int st'.bk u6) D2 q) m' ∧ (∀ z, z ≠ Str.ofString "k" → z ≠ Str.ofString "j" → m' z = m z) ∧
    nx = (D2, o') :: (q, bmObj "dict.get" D1) :: (D1, o1) :: post ∧ DObj pw w o' vs' ∧ IV vs' st'.kv ∧ st'.kv.length ≤ st.kv.length + idx ∧ inner (lookI kv1) blo bhi i (js.drop idx) st' = inner (lookI kv1) blo bhi i js st)
    rfl hl F N ⟨st, o2, vs2, t4, t5, t6, m, rfl, fun _ _ _ => rfl, rfl, hd2, hv2, by omega, by simp⟩ ?_ ?_
  · rintro idx v mm nx h tk I oI hv ⟨st', o', vs', u4, u5, u6, m', rfl, hm', rfl, hd', hv', hlen', hin⟩ hoff F1 N1
    have hidx : idx < js.length := by
      have h1 := (List.getElem?_eq_some_iff.mp hv).1
      rw [hj.length] at h1; exact h1
    obtain ⟨t, hx⟩ := hj.get idx js[idx] (by simp [hidx])
    rw [hv] at hx
    obtain rfl := Option.some.inj hx
    have hdrop : js.drop idx = js[idx] :: js.drop (idx + 1) := List.drop_eq_getElem_cons hidx
    rw [hdrop] at hin
    obtain ⟨bi, bj, bk, kv⟩ := st'
    refine inner_turn (w := w) (g := g) (s := { s with heap := h, toks := tk }) X T F1 N1 hd1 hv1 hd' hv' hne (by simp only at hlen' ⊢; omega) (fun e => hoff (D2, o') (.head _) e.symm) n2 n3 n4 ?_ ?_ ?_
    · intro hlt
      refine ⟨h, tk, _, _, rfl, F1, N1, fun p hp => by simpa using hoff p hp, ⟨bi, bj, bk, kv⟩, o', vs', u4, u5, u6, _, map_j, fun z z1 z2 => by simp only [if_neg z2]; exact hm' z z1 z2, rfl, hd', hv', by simp only at hlen' ⊢; omega, ?_⟩
      rw [← hin]
      simp only [inner, if_pos hlt]
    · intro h1 h2
      have e : inner (lookI kv1) blo bhi i js st = ⟨bi, bj, bk, kv⟩ := by
        rw [← hin]; simp only [inner, if_neg h1]; rw [if_pos h2]
      rw [map_j] at F1
      refine done h tk o' vs' u4 u5 u6 _ (by rw [e]; exact F1) (fun z z1 z2 => by simp only [if_neg z2]; exact hm' z z1 z2) (fun p hp => N1 p (.tail _ hp)) hd' (by rw [e]; exact hv')
    · intro h1 h2 h' tk' o'' vs'' w4 w5 w6 m'' F2 hm2 N2 hd2' hv2'
      refine ⟨h', tk', _, _, rfl, F2, N2, fun p hp => ?_, _, o'', vs'', w4, w5, w6, m'', rfl, fun z z1 z2 => (hm2 z z1 z2).trans (hm' z z1 z2), rfl, hd2', hv2', ?_, ?_⟩
      · rcases List.mem_cons.mp hp with rfl | hp
        · simpa using hoff (D2, o') (.head _)
        · simpa using hoff p (.tail _ hp)
      · have := storedI_length kv js[idx] (lookI kv1 (js[idx] - 1) + 1)
        have e : (St.turn (lookI kv1) i ⟨bi, bj, bk, kv⟩ js[idx]).kv = storedI kv js[idx] (lookI kv1 (js[idx] - 1) + 1) := by unfold St.turn; simp only; split <;> rfl
        rw [e]; simp only at hlen'; omega
      · rw [← hin]
        simp only [inner, if_neg h1, if_neg h2]
  · rintro mm nx h tk ⟨st', o', vs', u4, u5, u6, m', rfl, hm', rfl, hd', hv', _, hin⟩ F1 N1
    have e : inner (lookI kv1) blo bhi i js st = st' := by
      rw [← hin, hj.length, List.drop_length]; rfl
    refine done h tk o' vs' u4 u5 u6 m' (by rw [e]; exact F1) hm' N1 hd' (by rw [e]; exact hv')
end Mine
end
section
open PySem PySem.W PySem.Calls PyProof.Rows
set_option maxRecDepth 100000
namespace Mine
section
variable {prog : Program} {w : World} {A : Around} {E : Value → Shared → Prop} {s : Shared} {env : Env} {h₀ : Heap} {x : Str} {body : List Stmt} {Q : Flow → Shared → Prop}
/-- an empty list of the ledger -/
theorem emptyJ {l : Addr} {k : Nat} {m₀ : Str → Option Value} {news : List (Addr × Obj)}
    (hh : A.handled = none) (F : Fr h₀ env.locals s.heap m₀) (N : News h₀ env.locals s.heap news) (hl : (l, ({ cls := .type "list", data := .seq #[] k } : Obj)) ∈ news)
    (done : ∀ h tk, Fr h₀ env.locals h m₀ → News h₀ env.locals h news → Q .next { s with heap := h, toks := tk }) :
    wpAny (model prog w) A (pyIter (.ref l)) (fun it s₂ => LoopAtV prog w A h₀ env x body Q E it s₂) E s := by
  have hls : s.heap.IsList l #[] := ⟨_, (N _ hl).1, rfl, k, rfl⟩
  have hne : l ≠ s.heap.objs.size := Nat.ne_of_lt (Heap.lt_size (N _ hl).1)
  refine wpAny_pyIter_list hls ?_
  have W := Walks.list (prog := prog) (w := w) hh s.heap.objs.size l hne #[]
  refine loopJ (fun _ mm nx => mm = m₀ ∧ nx = news) W ?_ ?_ ?_ ⟨⟨_, Heap.get?_push_size _ rfl, rfl, rfl⟩, hls.at fun o e => Heap.get?_push_of_some _ e⟩ (F.push _) (fun p hp => ⟨Heap.get?_push_of_some _ (N p hp).1, (N p hp).2⟩) ⟨rfl, rfl⟩ ?_ ?_ ?_
  · intro hm
    rcases List.mem_cons.mp hm with e | hm
    · exact absurd F.ns.lt (e ▸ Nat.lt_irrefl _)
    · exact (N _ hl).2.1 (List.mem_singleton.mp hm).symm
  · intro b hb
    rw [List.mem_singleton.mp hb]
    exact next_is_new F
  · intro p hp hI
    exact absurd (Heap.lt_size (N p hp).1) ((List.mem_singleton.mp hI) ▸ Nat.lt_irrefl _)
  · intro i v m₁ news₁ h tk own hi
    exact absurd hi (by simp)
  · intro i h hst b hb
    rw [List.mem_singleton.mp hb]
    obtain ⟨o, ho, _⟩ := hst.1
    exact ⟨o, ho⟩
  · rintro m₁ news₁ h tk ⟨rfl, rfl⟩ F' N'
    exact done h tk F' N'
end
end Mine
end
section
open PySem PySem.W PySem.Calls PyProof.Rows
set_option maxRecDepth 100000
namespace Mine
noncomputable abbrev outS (alo ahi b isb : Value) (D la nl D1 : Addr) (blo bhi bi bj bk : Value) : List (Str × Value) := [(Str.ofString "a", .ref la), (Str.ofString "b2j", .ref D), (Str.ofString "nothing", .ref nl), (Str.ofString "blo", blo), (Str.ofString "bhi", bhi), (Str.ofString "besti", bi), (Str.ofString "bestj", bj), (Str.ofString "bestsize", bk), (Str.ofString "j2len", .ref D1),
  (Str.ofString "alo", alo), (Str.ofString "ahi", ahi), (Str.ofString "b", b), (Str.ofString "isbjunk", isb)]
theorem mem_of_lookup {z : Str} {v : Value} : ∀ {S : List (Str × Value)}, S.lookup z = some v → (z, v) ∈ S
  | [], h => by cases h
  | (n, u) :: r, h => by
    rw [List.lookup_cons] at h
    by_cases e : z = n
    · subst e; rw [beq_self_eq_true] at h; cases h; exact .head _
    · rw [beq_false_of_ne e] at h; exact .tail _ (mem_of_lookup h)
theorem over_self {S : List (Str × Value)} {mm : Str → Option Value} (h : ∀ p ∈ S, mm p.1 = some p.2) : over S mm = mm := by
  funext z
  unfold over
  split
  · rename_i v hv; exact (h _ (mem_of_lookup hv)).symm
  · rfl
theorem getAttr_dgN {prog : Program} {w : World} {A : Around} {E : Value → Shared → Prop} {s : Shared} {h₀ : Heap} {L d : Addr} {m : Str → Option Value} {news : List (Addr × Obj)} {o : Obj} {vs : List (Int × Value)} {Q : Value → Shared → Prop}
    (F : Fr h₀ L s.heap m) (N : News h₀ L s.heap news) (hp : (d, o) ∈ news) (hd : DObj prog w o vs)
    (h : ∀ q h' tk, Fr h₀ L h' m → News h₀ L h' ((q, bmObj "dict.get" d) :: news) → (∀ p ∈ news, p.1 < q) → Q (.ref q) { s with heap := h', toks := tk }) :
    wpAny (model prog w) A (getAttr (.ref d) "get" true) Q E s := by
  obtain ⟨es, ep, ⟨a1, a2, a3⟩, b, _⟩ := hd
  have z := (N _ hp).1
  obtain ⟨c, dd, dat, sl⟩ := o
  simp only at a1 a2 a3 b
  subst a1 a2 a3 b
  exact getAttr_dg z fun tk => h s.heap.objs.size _ tk (F.push _) (N.push F _) fun p hp => Heap.lt_size (N p hp).1
section
variable {prog : Program} {w : World} {A : Around} {E : Value → Shared → Prop} {s : Shared} {g : Heap} {L D : Addr} {m : Str → Option Value} {f : Int → Option Value} {k : Int} {t : Tok} {dflt : Value}
theorem mapOf_keep (F : Fr g L s.heap m) (hm : g.MapOf (intKind prog w) D f) : s.heap.MapOf (intKind prog w) D f := let ⟨o, es, ep, ho, r⟩ := hm; ⟨o, es, ep, F.keep _ _ ho, r⟩
theorem getMethod_base {pl : Sem Bool} {Q : Value × List Value → Shared → Prop} (F : Fr g L s.heap m) (hm : g.MapOf (intKind prog w) D f) (h : Q (.builtin "dict.get", [.ref D]) s) : wpAny (model prog w) A (getMethod (.ref D) "get" pl) Q E s :=
  have hm' := mapOf_keep F hm
  getMethod_builtin hm'.typeIs PySem.F.plainAttrs_dict PySem.F.slot_dict_get ty_dg (fun a e => by cases e; obtain ⟨o, es, ep, ho, hc, _⟩ := hm'; exact ⟨o, ho, hc.2.1⟩) h
theorem get_base {Q : Value → Shared → Prop} (F : Fr g L s.heap m) (hm : g.MapOf (intKind prog w) D f) (hne : (D == sysModules) = false) (h : Q ((f k).getD dflt) { s with toks := s.toks + 1 }) :
    wpAny (model prog w) A (call (.builtin "dict.get") [.ref D, .int k t, dflt]) Q E s :=
  have hm' := mapOf_keep F hm
  call_meetsIn PySem.F.slot_dict_get hm'.typeIs PySem.F.entry_dict_get (PySem.F.args_dict_get_3 _ _ _) (meets_dict_get_default (intKind prog w) D (k := k) (by simp [intKind, Value.isInt]) hne dflt) ⟨f, hm', h⟩
end
theorem allLt_mem {d : Nat} {l : List (Addr × Obj)} (h : AllLt d l) : ∀ p ∈ l, p.1 < d := by
  induction l with
  | nil => intro p hp; cases hp
  | cons a r ih =>
    have h1 : a.1 < d ∧ AllLt d r := h
    intro p hp
    rcases List.mem_cons.mp hp with e | hp
    · rw [e]; exact h1.1
    · exact ih h1.2 p hp
theorem outer_end {g h : Heap} {L D la nl D1 d q : Addr} {m m' : Str → Option Value} {alo ahi vb isb i blo bhi bi bj bk ci cj ck : Value}
    (hm : ∀ z, z ≠ Str.ofString "k" → z ≠ Str.ofString "j" → m' z = (fun y => if y = Str.ofString "newj2len" then some (Value.ref d) else if y = Str.ofString "j2lenget" then some (Value.ref q) else if y = Str.ofString "i" then some i else over (outS alo ahi vb isb D la nl D1 blo bhi bi bj bk) m y) z)
    (F : Fr g L h (fun y => if y = Str.ofString "j2len" then some (Value.ref d) else over (inS i blo bhi ci cj ck d q) m' y)) :
    Fr g L h (over (outS alo ahi vb isb D la nl d blo bhi ci cj ck) (fun y => if y = Str.ofString "j2len" then some (Value.ref d) else over (inS i blo bhi ci cj ck d q) m' y)) := by
  rw [over_self]
  · exact F
  · refine List.forall_mem_cons.mpr ⟨hm (Str.ofString "a") (by decide) (by decide), ?_⟩
    refine List.forall_mem_cons.mpr ⟨hm (Str.ofString "b2j") (by decide) (by decide), ?_⟩
    refine List.forall_mem_cons.mpr ⟨hm (Str.ofString "nothing") (by decide) (by decide), ?_⟩
    refine List.forall_mem_cons.mpr ⟨rfl, ?_⟩
    refine List.forall_mem_cons.mpr ⟨rfl, ?_⟩
    refine List.forall_mem_cons.mpr ⟨rfl, ?_⟩
    refine List.forall_mem_cons.mpr ⟨rfl, ?_⟩
    refine List.forall_mem_cons.mpr ⟨rfl, ?_⟩
    refine List.forall_mem_cons.mpr ⟨rfl, ?_⟩
    refine List.forall_mem_cons.mpr ⟨hm (Str.ofString "alo") (by decide) (by decide), ?_⟩
    refine List.forall_mem_cons.mpr ⟨hm (Str.ofString "ahi") (by decide) (by decide), ?_⟩
    refine List.forall_mem_cons.mpr ⟨hm (Str.ofString "b") (by decide) (by decide), ?_⟩
    refine List.forall_mem_cons.mpr ⟨hm (Str.ofString "isbjunk") (by decide) (by decide), ?_⟩
    exact List.forall_mem_nil _
set_option maxHeartbeats 4000000 in
theorem outer_turn {w : World} {e1 e2 : Env} {f : Int → Option Value} {s : Shared} {g : Heap} {L : Addr} {m mg mb : Str → Option Value} {mean : ExcName → Option Value} {alo ahi vb isb : Value} {js : Int → List Int}
    {D D1 la nl I : Addr} {o1 oI : Obj} {post : List (Addr × Obj)} {Q : Flow → Shared → Prop} {i blo bhi : Int} {st : St} {ti t2 t3 t4 t5 t6 : Tok} {vs1 : List (Int × Value)} {va : List Value} {as : List Int}
    (X : (K w.params).In g) (T : Top qv (looseW qv loose) mean mg mb g)
    (F : Fr g L s.heap (fun y => if y = Str.ofString "i" then some (.int i ti) else over (outS alo ahi vb isb D la nl D1 (.int blo t2) (.int bhi t3) (.int st.bi t4) (.int st.bj t5) (.int st.bk t6)) m y))
    (N : News g L s.heap ((I, oI) :: (D1, o1) :: (nl, { cls := .type "list", data := .seq #[] 0 }) :: post))
    (hD : g.MapOf (intKind pw w) D f) (hDn : (D == sysModules) = false) (hla : g.IsList la va.toArray) (hva : IntsAre va as) (hi0 : 0 ≤ i) (hi1 : i < (as.length : Int)) (hi2 : (as.length : Int) < 100000)
    (hB : ∀ v, (f v = none ∧ js v = []) ∨ ∃ lv vj, f v = some (.ref lv) ∧ g.IsList lv vj.toArray ∧ IntsAre vj (js v)) (hjs : ∀ v, (js v).length ≤ 100000)
    (hd1 : DObj pw w o1 vs1) (hv1 : IV vs1 st.kv) (hne : (D1 == sysModules) = false)
    (kn : ∀ h' tk D2 o' vs' u4 u5 u6 m', Fr g L h' (over (outS alo ahi vb isb D la nl D2 (.int blo t2) (.int bhi t3) (.int (inner (lookI st.kv) blo bhi i (js (as.getD i.toNat 0)) ⟨st.bi, st.bj, st.bk, []⟩).bi u4) (.int (inner (lookI st.kv) blo bhi i (js (as.getD i.toNat 0)) ⟨st.bi, st.bj, st.bk, []⟩).bj u5) (.int (inner (lookI st.kv) blo bhi i (js (as.getD i.toNat 0)) ⟨st.bi, st.bj, st.bk, []⟩).bk u6)) m') →
      News g L h' ((I, oI) :: (D2, o') :: (nl, { cls := .type "list", data := .seq #[] 0 }) :: post) → I < D2 → nl < D2 → (∀ p ∈ post, p.1 < D2) → (D2 == sysModules) = false → DObj pw w o' vs' → IV vs' (inner (lookI st.kv) blo bhi i (js (as.getD i.toNat 0)) ⟨st.bi, st.bj, st.bk, []⟩).kv → Q .next { s with heap := h', toks := tk }) :
    wpAny (model pw w) (((callerA.deeper e1).deeper e2).deeper (envF L)) (execs OB (envF L)) Q (fun _ _ => False) s := by
  conv in OB => whnf
  show wpAny _ _ (execs _ _) _ _ _
  iterate 11 (first | (k_here; (with_reducible show wpAny _ _ (getMethod (Value.ref _) (PySem.Str.ofString "get") _) _ _ _); k_dflt (refine' getMethod_base ?F ?m ?_; (case F => k_asm); (case m => k_asm); k_whole)) | (k_here; k_dflt (refine' get_base ?F ?m ?n ?_; (case F => k_asm); (case m => k_asm); (case n => k_asm); k_whole)) | (k_here; (with_reducible show wpAny _ _ (getAttr (Value.ref _) (PySem.Str.ofString "get") _) _ _ _); k_dflt (refine' getAttr_dgN ?F ?N ?p ?d ?_; (case F => k_asm); (case N => k_asm); (case p => k_mem); (case d => k_asm); k_whole); intro q' h' tk' F' N' l1; (try k_lt l1); (try k_sweep)) | walk1)
  refine For_invV g (by rfl) (by rfl) ?_
  iterate 13 (first | (k_here; (with_reducible show wpAny _ _ (getMethod (Value.ref _) (PySem.Str.ofString "get") _) _ _ _); k_dflt (refine' getMethod_base ?F ?m ?_; (case F => k_asm); (case m => k_asm); k_whole)) | (k_here; k_dflt (refine' get_base ?F ?m ?n ?_; (case F => k_asm); (case m => k_asm); (case n => k_asm); k_whole)) | (k_here; (with_reducible show wpAny _ _ (getAttr (Value.ref _) (PySem.Str.ofString "get") _) _ _ _); k_dflt (refine' getAttr_dgN ?F ?N ?p ?d ?_; (case F => k_asm); (case N => k_asm); (case p => k_mem); (case d => k_asm); k_whole); intro q' h' tk' F' N' l1; (try k_lt l1); (try k_sweep)) | walk1)
  rename Fr g L _ _ => F9
  rename News g L _ _ => N9
  rename_i _ d9 _ o9 lo9 _ _ hi9 _ k9 h9 _
  have hdo : DObj pw w o9 [] := by
    obtain ⟨o2, e2, d2⟩ := DObj.of (Heap.dictOf_iff.mpr ⟨_, (N9 _ (.head _)).1, hi9⟩)
    rw [(N9 _ (.head _)).1] at e2; cases e2; exact d2
  have F10 := F9
  rw [← over_self (S := inS (.int i ti) (.int blo t2) (.int bhi t3) (.int st.bi t4) (.int st.bj t5) (.int st.bk t6) d9 q') (mm := fun y => if y = Str.ofString "newj2len" then some (Value.ref d9) else if y = Str.ofString "j2lenget" then some (Value.ref q') else if y = Str.ofString "i" then some (Value.int i ti) else over (outS alo ahi vb isb D la nl D1 (.int blo t2) (.int bhi t3) (.int st.bi t4) (.int st.bj t5) (.int st.bk t6)) m y)
    (by repeat (first | exact List.forall_mem_nil _ | refine List.forall_mem_cons.mpr ⟨rfl, ?_⟩))] at F10
  rcases hB (as.getD i.toNat 0) with ⟨fn, jn⟩ | ⟨lv, vj, fs, hlv, hvj⟩
  · rw [fn]
    refine emptyJ (h₀ := g) (env := envF L) rfl F10 N9 (by k_mem) (fun h tk F' N' => ?_)
    dsimp only
    repeat' (first | (k_here; (with_reducible show wpAny _ _ (getMethod (Value.ref _) (PySem.Str.ofString "get") _) _ _ _); k_dflt (refine' getMethod_base ?F ?m ?_; (case F => k_asm); (case m => k_asm); k_whole)) | (k_here; k_dflt (refine' get_base ?F ?m ?n ?_; (case F => k_asm); (case m => k_asm); (case n => k_asm); k_whole)) | (k_here; (with_reducible show wpAny _ _ (getAttr (Value.ref _) (PySem.Str.ofString "get") _) _ _ _); k_dflt (refine' getAttr_dgN ?F ?N ?p ?d ?_; (case F => k_asm); (case N => k_asm); (case p => k_mem); (case d => k_asm); k_whole); intro q' h' tk' F' N' l1; (try k_lt l1); (try k_sweep)) | walk1)
    rename Fr g L _ _ => F11
    rename News g L _ _ => N11
    refine kn _ _ d9 o9 [] t4 t5 t6 _ (by rw [jn]; exact outer_end (fun z _ _ => rfl) F11) (fun p hp => N11 p (by simp only [List.mem_cons] at hp ⊢; rcases hp with h | h | h | h <;> simp [h])) k9.2.1 k9.2.2.2.1 (fun p hp => ?_) lo9 hdo (by rw [jn]; exact .nil)
    exact allLt_mem k9.2.2.2.2 p hp
  · rw [fs]
    refine inner_loop (st := ⟨st.bi, st.bj, st.bk, []⟩) (post := (I, oI) :: (nl, { cls := .type "list", data := .seq #[] 0 }) :: post) X T F10 (fun p hp => N9 p (by simp only [List.mem_cons] at hp ⊢; rcases hp with h | h | h | h | h | h <;> simp [h])) hlv hvj hd1 hv1 hdo .nil hne (by have := hjs (as.getD i.toNat 0); simpa using this) (Nat.ne_of_lt k9.1) (Nat.ne_of_lt k9.2.2.1) ?_ ?_
    · intro p hp
      simp only [List.mem_cons] at hp
      rcases hp with rfl | rfl | hp
      · exact Nat.ne_of_lt k9.2.1
      · exact Nat.ne_of_lt k9.2.2.2.1
      · exact Nat.ne_of_lt (allLt_mem k9.2.2.2.2 p hp)
    · intro h' tk o'' vs'' u4 u5 u6 m' F' hm' N' hd' hv'
      dsimp only
      repeat' (first | (k_here; (with_reducible show wpAny _ _ (getMethod (Value.ref _) (PySem.Str.ofString "get") _) _ _ _); k_dflt (refine' getMethod_base ?F ?m ?_; (case F => k_asm); (case m => k_asm); k_whole)) | (k_here; k_dflt (refine' get_base ?F ?m ?n ?_; (case F => k_asm); (case m => k_asm); (case n => k_asm); k_whole)) | (k_here; (with_reducible show wpAny _ _ (getAttr (Value.ref _) (PySem.Str.ofString "get") _) _ _ _); k_dflt (refine' getAttr_dgN ?F ?N ?p ?d ?_; (case F => k_asm); (case N => k_asm); (case p => k_mem); (case d => k_asm); k_whole); intro q' h' tk' F' N' l1; (try k_lt l1); (try k_sweep)) | walk1)
      rename Fr g L _ _ => F11
      rename News g L _ _ => N11
      refine kn _ _ d9 o'' vs'' u4 u5 u6 _ (outer_end hm' F11) (fun p hp => N11 p (by simp only [List.mem_cons] at hp ⊢; rcases hp with h | h | h | h <;> simp [h])) k9.2.1 k9.2.2.2.1 (fun p hp => ?_) lo9 hd' hv'
      exact allLt_mem k9.2.2.2.2 p hp
end Mine
end
section
open PySem PySem.W PySem.Calls PyProof.Rows
set_option maxRecDepth 100000
namespace Mine
noncomputable def rows (js : Int → List Int) (as : List Int) (alo blo bhi : Int) (st : St) : Nat → St
  | 0 => st
  | n + 1 => inner (lookI (rows js as alo blo bhi st n).kv) blo bhi (alo + n) (js (as.getD (alo + n).toNat 0)) ⟨(rows js as alo blo bhi st n).bi, (rows js as alo blo bhi st n).bj, (rows js as alo blo bhi st n).bk, []⟩
noncomputable abbrev nilObj : Obj := { cls := .type "list", data := .seq #[] 0 }
theorem outer_loop {w : World} {e1 e2 : Env} {f : Int → Option Value} {s : Shared} {g : Heap} {L r : Addr} {m mg mb : Str → Option Value} {mean : ExcName → Option Value} {valo vahi vb isb : Value} {js : Int → List Int}
    {D D1 la nl : Addr} {o1 : Obj} {post : List (Addr × Obj)} {Q : Flow → Shared → Prop} {alo ahi blo bhi : Int} {st : St} {ta tb tc t2 t3 t4 t5 t6 : Tok} {vs1 : List (Int × Value)} {va : List Value} {as : List Int} {n : Nat}
    (X : (K w.params).In g) (T : Top qv (looseW qv loose) mean mg mb g)
    (hr : IsRange s.heap r alo ahi 1 ta tb tc) (hsmall : Builtin.Range.small alo ahi 1 = true) (hn : Builtin.Range.rangeSize alo ahi 1 = (n : Int)) (halo : 0 ≤ alo) (hhi : alo + n ≤ (as.length : Int))
    (F : Fr g L s.heap (over (outS valo vahi vb isb D la nl D1 (.int blo t2) (.int bhi t3) (.int st.bi t4) (.int st.bj t5) (.int st.bk t6)) m))
    (N : News g L s.heap ((D1, o1) :: (nl, nilObj) :: post))
    (hD : g.MapOf (intKind pw w) D f) (hDn : (D == sysModules) = false) (hla : g.IsList la va.toArray) (hva : IntsAre va as) (hi2 : (as.length : Int) < 100000)
    (hB : ∀ v, (f v = none ∧ js v = []) ∨ ∃ lv vj, f v = some (.ref lv) ∧ g.IsList lv vj.toArray ∧ IntsAre vj (js v)) (hjs : ∀ v, (js v).length ≤ 100000)
    (hd1 : DObj pw w o1 vs1) (hv1 : IV vs1 st.kv) (hne : (D1 == sysModules) = false)
    (done : ∀ h' tk D2 o' u4 u5 u6 m', Fr g L h' (over (outS valo vahi vb isb D la nl D2 (.int blo t2) (.int bhi t3) (.int (rows js as alo blo bhi st n).bi u4) (.int (rows js as alo blo bhi st n).bj u5) (.int (rows js as alo blo bhi st n).bk u6)) m') →
      News g L h' ((D2, o') :: (nl, nilObj) :: post) → Q .next { s with heap := h', toks := tk }) :
    wpAny (model pw w) (((callerA.deeper e1).deeper e2).deeper (envF L)) (pyIter (.ref r)) (fun it s₂ => LoopAtV pw w (((callerA.deeper e1).deeper e2).deeper (envF L)) g (envF L) (Str.ofString "i") OB Q (fun _ _ => False) it s₂) (fun _ _ => False) s := by
  refine rangeJ (h₀ := g) (env := envF L) (fun idx mm nx => ∃ (D1 : Addr) (o1 : Obj) (vs1 : List (Int × Value)) (u4 u5 u6 : Tok) (m' : Str → Option Value),
    mm = over (outS valo vahi vb isb D la nl D1 (.int blo t2) (.int bhi t3) (.int (rows js as alo blo bhi st idx).bi u4) (.int (rows js as alo blo bhi st idx).bj u5) (.int (rows js as alo blo bhi st idx).bk u6)) m' ∧
    nx = (D1, o1) :: (nl, nilObj) :: post ∧ DObj pw w o1 vs1 ∧ IV vs1 (rows js as alo blo bhi st idx).kv ∧ (D1 == sysModules) = false)
    rfl hr hsmall hn F N ⟨D1, o1, vs1, t4, t5, t6, m, rfl, rfl, hd1, hv1, hne⟩ ?_ ?_
  · rintro idx t mm nx h tk I oI hidx ⟨D1, o1, vs1, u4, u5, u6, m', rfl, rfl, hd1, hv1, hne⟩ hoff F1 N1
    refine outer_turn (w := w) (g := g) (s := { s with heap := h, toks := tk }) (i := alo + idx) (st := rows js as alo blo bhi st idx) X T F1 N1 hD hDn hla hva (by omega) (by omega) hi2 hB hjs hd1 hv1 hne ?_
    intro h' tk' D2 o' vs' w4 w5 w6 m'' F2 N2 l1 l2 l3 hne2 hd2 hv2
    refine ⟨h', tk', _, _, rfl, F2, N2, fun p hp => ?_, D2, o', vs', w4, w5, w6, m'', rfl, rfl, hd2, hv2, hne2⟩
    rcases List.mem_cons.mp hp with rfl | hp
    · simpa using Nat.ne_of_gt l1
    · simpa using hoff p (.tail _ hp)
  · rintro mm nx h tk ⟨D1, o1, vs1, u4, u5, u6, m', rfl, rfl, _, _, _⟩ F1 N1
    exact done h tk D1 o1 u4 u5 u6 m' F1 N1
end Mine
end
section
open PySem PySem.W PySem.Calls PyProof.Rows
set_option maxRecDepth 100000
namespace Mine
theorem in_bmN {prog : Program} {w : World} {A : Around} {E : Value → Shared → Prop} {s : Shared} {g : Heap} {L S1 q : Addr} {m : Str → Option Value} {news : List (Addr × Obj)} {n : Nat} {k : Int} {t : Tok} {Q : Value → Shared → Prop}
    (F : Fr g L s.heap m) (N : News g L s.heap news) (hq : (q, bmObj "set.__contains__" S1) ∈ news) (hS : g.SetOf (intKind prog w) S1 (fun _ => false) n)
    (h : Q (.bool false) { s with toks := s.toks + 1 }) : wpAny (model prog w) A (call (.ref q) [.int k t]) Q E s := by
  refine wpAny_call (in_bm (S := fun _ => false) (n := n) (N _ hq).1 ?_ h)
  obtain ⟨o, es, ep, tb, ho, r⟩ := hS
  exact ⟨o, es, ep, tb, F.keep _ _ ho, r⟩
noncomputable def TB : List Stmt := B196.drop 8
noncomputable def wTest : Stmt → PySem.Expr
  | .While t _ _ _ => t
  | _ => .Constant .none 0 ⟨0, 0, 0, 0⟩
noncomputable def NoT (s : Shared) (b : Bool) (s' : Shared) : Prop := b = false ∧ ∃ tk, s' = { s with toks := tk }
theorem noT {s : Shared} {tk : Nat} : NoT s false { s with toks := tk } := ⟨rfl, _, rfl⟩
theorem noT' {s : Shared} : NoT s false s := ⟨rfl, s.toks, rfl⟩
theorem while_no {prog : Program} {w : World} {A : Around} {s : Shared} {env : Env} {test : PySem.Expr} {body : List Stmt} {pos : Pos} {Q : Flow → Shared → Prop}
    (h : wpAny (model prog w) A (isTrue test env (eval test env)) (NoT s) (fun _ _ => False) s) (k : ∀ tk, Q .next { s with toks := tk }) :
    wpAny (model prog w) A (exec (.While test body [] pos) env) Q (fun _ _ => False) s := by
  refine whl_start 1 ?_
  refine whl_turn (by passes_own) ?_
  refine wpAny_mono h (fun b s' e => ?_) (fun _ _ e => e)
  obtain ⟨rfl, tk, rfl⟩ := e
  exact .no rfl (wpAny_pure (k tk))
noncomputable def T0 : PySem.Expr := wTest (nth TB 0)
set_option maxHeartbeats 4000000 in
theorem test0 {w : World} {e1 e2 : Env} {s : Shared} {g : Heap} {L la lb D S1 l9 D2 q9 : Addr} {mg mb m' : Str → Option Value} {mean : ExcName → Option Value} {alo ahi blo bhi : Int} {t1 t2 t3 t4 u4 u5 u6 : Tok} {n : Nat} {va vb : List Value} {as bs : List Int} {post : List (Addr × Obj)}
    (X : (K w.params).In g) (T : Top qv (looseW qv loose) mean mg mb g) {bi bj bk : Int}
    (F : Fr g L s.heap (over (outS (.int alo t1) (.int ahi t2) (.ref lb) (.ref q9) D la l9 D2 (.int blo t3) (.int bhi t4) (.int bi u4) (.int bj u5) (.int bk u6)) m'))
    (N : News g L s.heap ((q9, bmObj "set.__contains__" S1) :: post))
    (hS : g.SetOf (intKind pw w) S1 (fun _ => false) n)
    (hla : g.IsList la va.toArray) (hva : IntsAre va as) (hi2 : (as.length : Int) < 100000)
    (hlb : g.IsList lb vb.toArray) (hvb : IntsAre vb bs) (hj2 : (bs.length : Int) < 100000)
    (a0 : 0 ≤ alo) (a1 : alo ≤ ahi) (a2 : ahi ≤ as.length) (b0 : 0 ≤ blo) (b1 : blo ≤ bhi) (b2 : bhi ≤ bs.length)
    (c0 : 0 ≤ bk) (c1 : alo ≤ bi) (c2 : bi + bk ≤ ahi) (c3 : blo ≤ bj) (c4 : bj + bk ≤ bhi)
    (p1 : alo < bi → blo < bj → as.getD (bi - 1).toNat 0 ≠ bs.getD (bj - 1).toNat 0) :
    wpAny (model pw w) (((callerA.deeper e1).deeper e2).deeper (envF L)) (isTrue T0 (envF L) (eval T0 (envF L))) (NoT s) (fun _ _ => False) s := by
  conv in (occs := *) T0 => all_goals whnf
  repeat' (first | exact noT | exact noT' | exact (N (q9, bmObj "set.__contains__" S1) (.head _)).1 | (first | (k_here; (with_reducible show wpAny _ _ (call (Value.ref _) [Value.int _ _]) _ _ _); k_dflt (refine in_bmN (by k_asm) (by k_asm) (by k_mem) (by k_asm) ?_)) | (k_here; (with_reducible show wpAny _ _ (callWith _ (Value.ref _) _ _ _) _ _ _); k_dflt (refine callWith_bmN (by k_asm) (by k_mem) ?_)) | walk1) | (dsimp only; (first | (k_here; (with_reducible show wpAny _ _ (call (Value.ref _) [Value.int _ _]) _ _ _); k_dflt (refine in_bmN (by k_asm) (by k_asm) (by k_mem) (by k_asm) ?_)) | (k_here; (with_reducible show wpAny _ _ (callWith _ (Value.ref _) _ _ _) _ _ _); k_dflt (refine callWith_bmN (by k_asm) (by k_mem) ?_)) | walk1)))
  all_goals exact absurd (by assumption) (p1 (by assumption) (by assumption))
noncomputable def T1 : PySem.Expr := wTest (nth TB 1)
set_option maxHeartbeats 4000000 in
theorem test1 {w : World} {e1 e2 : Env} {s : Shared} {g : Heap} {L la lb D S1 l9 D2 q9 : Addr} {mg mb m' : Str → Option Value} {mean : ExcName → Option Value} {alo ahi blo bhi : Int} {t1 t2 t3 t4 u4 u5 u6 : Tok} {n : Nat} {va vb : List Value} {as bs : List Int} {post : List (Addr × Obj)}
    (X : (K w.params).In g) (T : Top qv (looseW qv loose) mean mg mb g) {bi bj bk : Int}
    (F : Fr g L s.heap (over (outS (.int alo t1) (.int ahi t2) (.ref lb) (.ref q9) D la l9 D2 (.int blo t3) (.int bhi t4) (.int bi u4) (.int bj u5) (.int bk u6)) m'))
    (N : News g L s.heap ((q9, bmObj "set.__contains__" S1) :: post))
    (hS : g.SetOf (intKind pw w) S1 (fun _ => false) n)
    (hla : g.IsList la va.toArray) (hva : IntsAre va as) (hi2 : (as.length : Int) < 100000)
    (hlb : g.IsList lb vb.toArray) (hvb : IntsAre vb bs) (hj2 : (bs.length : Int) < 100000)
    (a0 : 0 ≤ alo) (a1 : alo ≤ ahi) (a2 : ahi ≤ as.length) (b0 : 0 ≤ blo) (b1 : blo ≤ bhi) (b2 : bhi ≤ bs.length)
    (c0 : 0 ≤ bk) (c1 : alo ≤ bi) (c2 : bi + bk ≤ ahi) (c3 : blo ≤ bj) (c4 : bj + bk ≤ bhi)
    (p2 : bi + bk < ahi → bj + bk < bhi → as.getD (bi + bk).toNat 0 ≠ bs.getD (bj + bk).toNat 0) :
    wpAny (model pw w) (((callerA.deeper e1).deeper e2).deeper (envF L)) (isTrue T1 (envF L) (eval T1 (envF L))) (NoT s) (fun _ _ => False) s := by
  conv in (occs := *) T1 => all_goals whnf
  repeat' (first | exact noT | exact noT' | exact (N (q9, bmObj "set.__contains__" S1) (.head _)).1 | (first | (k_here; (with_reducible show wpAny _ _ (call (Value.ref _) [Value.int _ _]) _ _ _); k_dflt (refine in_bmN (by k_asm) (by k_asm) (by k_mem) (by k_asm) ?_)) | (k_here; (with_reducible show wpAny _ _ (callWith _ (Value.ref _) _ _ _) _ _ _); k_dflt (refine callWith_bmN (by k_asm) (by k_mem) ?_)) | walk1) | (dsimp only; (first | (k_here; (with_reducible show wpAny _ _ (call (Value.ref _) [Value.int _ _]) _ _ _); k_dflt (refine in_bmN (by k_asm) (by k_asm) (by k_mem) (by k_asm) ?_)) | (k_here; (with_reducible show wpAny _ _ (callWith _ (Value.ref _) _ _ _) _ _ _); k_dflt (refine callWith_bmN (by k_asm) (by k_mem) ?_)) | walk1)))
  all_goals exact absurd (by assumption) (p2 (by assumption) (by assumption))
noncomputable def T2 : PySem.Expr := wTest (nth TB 2)
set_option maxHeartbeats 4000000 in
theorem test2 {w : World} {e1 e2 : Env} {s : Shared} {g : Heap} {L la lb D S1 l9 D2 q9 : Addr} {mg mb m' : Str → Option Value} {mean : ExcName → Option Value} {alo ahi blo bhi : Int} {t1 t2 t3 t4 u4 u5 u6 : Tok} {n : Nat} {va vb : List Value} {as bs : List Int} {post : List (Addr × Obj)}
    (X : (K w.params).In g) (T : Top qv (looseW qv loose) mean mg mb g) {bi bj bk : Int}
    (F : Fr g L s.heap (over (outS (.int alo t1) (.int ahi t2) (.ref lb) (.ref q9) D la l9 D2 (.int blo t3) (.int bhi t4) (.int bi u4) (.int bj u5) (.int bk u6)) m'))
    (N : News g L s.heap ((q9, bmObj "set.__contains__" S1) :: post))
    (hS : g.SetOf (intKind pw w) S1 (fun _ => false) n)
    (hla : g.IsList la va.toArray) (hva : IntsAre va as) (hi2 : (as.length : Int) < 100000)
    (hlb : g.IsList lb vb.toArray) (hvb : IntsAre vb bs) (hj2 : (bs.length : Int) < 100000)
    (a0 : 0 ≤ alo) (a1 : alo ≤ ahi) (a2 : ahi ≤ as.length) (b0 : 0 ≤ blo) (b1 : blo ≤ bhi) (b2 : bhi ≤ bs.length)
    (c0 : 0 ≤ bk) (c1 : alo ≤ bi) (c2 : bi + bk ≤ ahi) (c3 : blo ≤ bj) (c4 : bj + bk ≤ bhi)
 :
    wpAny (model pw w) (((callerA.deeper e1).deeper e2).deeper (envF L)) (isTrue T2 (envF L) (eval T2 (envF L))) (NoT s) (fun _ _ => False) s := by
  conv in (occs := *) T2 => all_goals whnf
  repeat' (first | exact noT | exact noT' | exact (N (q9, bmObj "set.__contains__" S1) (.head _)).1 | (first | (k_here; (with_reducible show wpAny _ _ (call (Value.ref _) [Value.int _ _]) _ _ _); k_dflt (refine in_bmN (by k_asm) (by k_asm) (by k_mem) (by k_asm) ?_)) | (k_here; (with_reducible show wpAny _ _ (callWith _ (Value.ref _) _ _ _) _ _ _); k_dflt (refine callWith_bmN (by k_asm) (by k_mem) ?_)) | walk1) | (dsimp only; (first | (k_here; (with_reducible show wpAny _ _ (call (Value.ref _) [Value.int _ _]) _ _ _); k_dflt (refine in_bmN (by k_asm) (by k_asm) (by k_mem) (by k_asm) ?_)) | (k_here; (with_reducible show wpAny _ _ (callWith _ (Value.ref _) _ _ _) _ _ _); k_dflt (refine callWith_bmN (by k_asm) (by k_mem) ?_)) | walk1)))
noncomputable def T3 : PySem.Expr := wTest (nth TB 3)
set_option maxHeartbeats 4000000 in
theorem test3 {w : World} {e1 e2 : Env} {s : Shared} {g : Heap} {L la lb D S1 l9 D2 q9 : Addr} {mg mb m' : Str → Option Value} {mean : ExcName → Option Value} {alo ahi blo bhi : Int} {t1 t2 t3 t4 u4 u5 u6 : Tok} {n : Nat} {va vb : List Value} {as bs : List Int} {post : List (Addr × Obj)}
    (X : (K w.params).In g) (T : Top qv (looseW qv loose) mean mg mb g) {bi bj bk : Int}
    (F : Fr g L s.heap (over (outS (.int alo t1) (.int ahi t2) (.ref lb) (.ref q9) D la l9 D2 (.int blo t3) (.int bhi t4) (.int bi u4) (.int bj u5) (.int bk u6)) m'))
    (N : News g L s.heap ((q9, bmObj "set.__contains__" S1) :: post))
    (hS : g.SetOf (intKind pw w) S1 (fun _ => false) n)
    (hla : g.IsList la va.toArray) (hva : IntsAre va as) (hi2 : (as.length : Int) < 100000)
    (hlb : g.IsList lb vb.toArray) (hvb : IntsAre vb bs) (hj2 : (bs.length : Int) < 100000)
    (a0 : 0 ≤ alo) (a1 : alo ≤ ahi) (a2 : ahi ≤ as.length) (b0 : 0 ≤ blo) (b1 : blo ≤ bhi) (b2 : bhi ≤ bs.length)
    (c0 : 0 ≤ bk) (c1 : alo ≤ bi) (c2 : bi + bk ≤ ahi) (c3 : blo ≤ bj) (c4 : bj + bk ≤ bhi)
 :
    wpAny (model pw w) (((callerA.deeper e1).deeper e2).deeper (envF L)) (isTrue T3 (envF L) (eval T3 (envF L))) (NoT s) (fun _ _ => False) s := by
  conv in (occs := *) T3 => all_goals whnf
  repeat' (first | exact noT | exact noT' | exact (N (q9, bmObj "set.__contains__" S1) (.head _)).1 | (first | (k_here; (with_reducible show wpAny _ _ (call (Value.ref _) [Value.int _ _]) _ _ _); k_dflt (refine in_bmN (by k_asm) (by k_asm) (by k_mem) (by k_asm) ?_)) | (k_here; (with_reducible show wpAny _ _ (callWith _ (Value.ref _) _ _ _) _ _ _); k_dflt (refine callWith_bmN (by k_asm) (by k_mem) ?_)) | walk1) | (dsimp only; (first | (k_here; (with_reducible show wpAny _ _ (call (Value.ref _) [Value.int _ _]) _ _ _); k_dflt (refine in_bmN (by k_asm) (by k_asm) (by k_mem) (by k_asm) ?_)) | (k_here; (with_reducible show wpAny _ _ (callWith _ (Value.ref _) _ _ _) _ _ _); k_dflt (refine callWith_bmN (by k_asm) (by k_mem) ?_)) | walk1)))
end Mine
end
section
open PySem PySem.W PySem.Calls PyProof.Rows
set_option maxRecDepth 100000
namespace Mine
noncomputable abbrev mObj (dx : Addr) (a b c : Value) : Obj := { cls := .ref 135, dict := some dx, data := .seq #[a, b, c] }
section
variable {prog : Program} {w : World} {A : Around} {h : Heap} {R : Result → Shared → Prop}
theorem in135 {P : Params} (X : (K P).In h) : h.get? 135 = some (o135 P) := X _ _ rfl
theorem made135 {M : Model} {P : Params} (X : (K P).In h) : Looks M h (Bind.madeBy (.ref 135)) none := by
  have hc := in135 X
  have hm : Looks M h (mroOf (.ref 135)) [.ref 135, .type "tuple", .type "object"] := (((Looks.ld (part := none) hc).andThen .now).andThen .now)
  intro A Q E s k q
  unfold Bind.madeBy
  refine wpAny_bind (hm A _ E s k ?_)
  rw [List.forIn_cons]
  refine wpAny_bind (wpAny_bind (wpAny_bind (wpAny_bind (wpAny_loadPart (k _ _ hc) (wpAny_pure ?_)))))
  exact wpAny_pure (wpAny_pure (wpAny_pure q))
theorem base135 {M : Model} {P : Params} (X : (K P).In h) : Looks M h (Bind.staticBase (.ref 135)) (.type "tuple") := by
  have hc := in135 X
  have hm : Looks M h (mroOf (.ref 135)) [.ref 135, .type "tuple", .type "object"] := (((Looks.ld (part := none) hc).andThen .now).andThen .now)
  have md := made135 (M := M) X
  intro A Q E s k q
  unfold Bind.staticBase
  refine wpAny_bind (hm A _ E s k ?_)
  rw [List.forIn_cons]
  refine wpAny_bind (wpAny_bind (wpAny_bind (md A _ E s k ?_)))
  have hc' : s.heap.get? 135 = some (o135 P) := k _ _ hc
  have mt : Bind.madeBy (.type "tuple") = pure (some "tuple.__new__") := PySem.F.called_tuple.made
  unfold o135 at hc'
  rw [if_neg (by decide)]
  dsimp only
  refine wpAny_bind (wpAny_bind (wpAny_loadPart hc' (wpAny_pure ?_)))
  refine wpAny_bind (wpAny_of_eq (show Builtin.Slots.bestBase [Value.type "tuple"] = pure (.type "tuple") from by kernel_rfl) (wpAny_pure ?_))
  dsimp only
  rw [List.forIn_cons]
  refine wpAny_bind (wpAny_bind (wpAny_of_eq mt (wpAny_pure ?_)))
  exact wpAny_pure (wpAny_pure q)
theorem tuple_new135 {g : Array GenState} {d : Drawn} {t : Nat} {os : OsState} {tp : Addr} {a b c : Value} (X : (K w.params).In h) (ht : h.get? tp = some { cls := .type "tuple", data := .seq #[a, b, c] })
    (hR : ∀ h' : Heap, (∀ b o', h.get? b = some o' → h'.get? b = some o') → R (.ok (.ret (.ref (h'.objs.size + 1)))) ⟨(h'.push emptyDict).push (mObj h'.objs.size a b c), g, d, t, os⟩) :
    codeAny (model prog w) A (.call (.builtin "tuple.__new__") ⟨[.ref 135, .ref tp], []⟩) R ⟨h, g, d, t, os⟩ := by
  have hc := in135 X
  have md := made135 (M := model prog w) X
  have bs := base135 (M := model prog w) X
  have mt : Bind.madeBy (.type "tuple") = pure (some "tuple.__new__") := PySem.F.called_tuple.made
  have mt' : Looks (model prog w) h (Bind.madeBy (.type "tuple")) (some "tuple.__new__") := Looks.of_pure mt
  have sub : Looks (model prog w) h (isSubtype (.ref 135) (.type "tuple")) true := looks_mroIn X (by kernel_rfl)
  have ty : Looks (model prog w) h (isType (.ref 135)) true := (Looks.ld hc).andThen .now
  have ini : Looks (model prog w) h (typeLookup (.ref 135) "__init__") (some (.builtin "object.__init__")) := looks_findIn X (by kernel_rfl)
  refine codeAny_call_builtin_code (Code.quiet_builtin _ (by decide +kernel)) ?_
  simp only [checkBuiltinCall, show builtinKind "tuple.__new__" = some .builtinFn from by decide +kernel, show splitId "tuple.__new__" = some ("tuple", "__new__") from by decide +kernel]
  repeat (first | simp only [bne_self_eq_false, Bool.false_eq_true, if_false] | lk)
  refine codeAny_builtin PySem.F.entry_tuple_new ?_
  unfold Builtin.«tuple.__new__»
  have hh : Looks (model prog w) h (Bind.madeHere "tuple.__new__" (.ref 135)) () := bs.andThen (mt'.andThen (Looks.of_pure (by simp only [Option.map_some, bne_self_eq_false, Bool.false_eq_true, if_false])))
  repeat (first | simp only [bne_self_eq_false, Bool.false_eq_true, if_false] | with_reducible refine wpAny_collect_seq (hsz := ?_) tp (.inr rfl) ht rfl rfl ?_ | lk)
  · intro h' hk
    have hc2 := hk _ _ hc
    unfold o135 at hc2
    have hc3 := Heap.get?_push_of_some (mObj h'.objs.size a b c) (Heap.get?_push_of_some emptyDict hc2)
    refine wpAny_bind (wpAny_pure (wpAny_bind (wpAny_alloc ?_)))
    refine wpAny_bind ?_
    show wpAny _ _ (newObjAsIs _ _ _) _ _ _
    unfold newObjAsIs classHasDel
    refine wpAny_bind (wpAny_alloc (wpAny_bind (wpAny_bind (wpAny_load hc3 (wpAny_pure ?_)))))
    refine wpAny_pure (wpAny_pure ?_)
    show R _ _
    have := hR h' hk
    rw [Heap.size_push]
    exact this
  · show 3 ≤ sizeLine
    rw [sizeLine_eq]; decide
theorem getnew {E : Value → Shared → Prop} {s : Shared} {Q : Value → Shared → Prop} {expr : Bool} (X : (K w.params).In s.heap) (h : Q (.ref 82) { s with toks := s.toks + 1 }) :
    wpAny (model prog w) A (getAttr (.ref 135) "__new__" expr) Q E s := by
  refine cls_bind (K := K w.params) (mc := .type "type") (g := .builtin "staticmethod.__get__") (a := .ref 136) (obj := .none) (tp := .ref 135) X (by kernel_rfl) (by kernel_rfl) ?_
  refine wpAny_call (sm_get (K := K w.params) (f := .ref 82) (rest := []) X (by kernel_rfl) ?_)
  exact handed_on (by kernel_rfl) h
set_option maxHeartbeats 4000000 in
/-- type.__call__ on Match: the own __new__ first -/
theorem call135 {g : Array GenState} {d : Drawn} {t : Nat} {os : OsState} {a b c : Value} (X : (K w.params).In h)
    (hn : codeAny (model prog w) (A.under (.builtin "type.__call__" ⟨[.ref 135, a, b, c], []⟩)) (.call (.ref 82) ⟨[.ref 135, a, b, c], []⟩)
      (fun r s' => ∃ x dx, r = .ok (.ret (.ref x)) ∧ s'.heap.get? x = some (mObj dx a b c) ∧ (K w.params).In s'.heap ∧ R (.ok (.ret (.ref x))) s') ⟨h, g, d, t + 1, os⟩) :
    codeAny (model prog w) A (.call (.ref 135) ⟨[a, b, c], []⟩) R ⟨h, g, d, t, os⟩ := by
  have hC := in135 X
  have md := made135 (M := model prog w) X
  have call : Looks (model prog w) h (specialOf (.ref 135) "__call__") (some (.builtin "type.__call__")) := looks_specialIn X (by kernel_rfl)
  have typ : Looks (model prog w) h (isInstance (.ref 135) (.type "type")) true := looks_instIn X (by kernel_rfl)
  refine codeAny_of_tree ?_
  show wpAny _ _ (callAny (.ref 135) _) _ _ _
  refine nd_load hC ?_
  show wpAny _ _ (callAny.viaDunder (.ref 135) _) _ _ _
  unfold callAny.viaDunder
  refine wpAny_bind (call.at ?_)
  dsimp only
  rw [tc_bind]
  refine wpAny_bind (wpAny_pure (wpAny_bind (wpAny_pure ?_)))
  refine wpAny_pure (a := Fin.again (.call (.builtin "type.__call__") ⟨[.ref 135, a, b, c], []⟩)) (And.intro rfl ?_)
  refine codeAny_call_builtin_at (Code.quiet_builtin _ (by decide +kernel)) entry_typeCall (check_slot tc_kind tc_split typ (tc_args _ _ _) ?_)
  unfold Builtin.«type.__call__»
  have hm : Looks (model prog w) h (mroOf (.ref 135)) [.ref 135, .type "tuple", .type "object"] := ((Looks.ld (part := none) hC).andThen .now).andThen .now
  repeat (first | with_reducible refine wpAny_call ?_ | (with_reducible refine getnew X ?_) | lk)
  refine codeAny_mono hn fun r s' z => ?_
  obtain ⟨x, dx, rfl, hx, X', hr⟩ := z
  obtain ⟨h2, g2, d2, t2, os2⟩ := s'
  dsimp only at hx X' hr ⊢
  have t1 : Looks (model prog w) h2 (typeOf (.ref x)) (.ref 135) := (Looks.ld hx).andThen .now
  have s1 : Looks (model prog w) h2 (isSubtype (.ref 135) (.ref 135)) true := looks_mroIn X' (by kernel_rfl)
  have s2 : Looks (model prog w) h2 (isSubtype (.ref 135) (.type "object")) true := looks_mroIn X' (by kernel_rfl)
  have i1 : Looks (model prog w) h2 (typeLookup (.ref 135) "__init__") (some (.builtin "object.__init__")) := looks_findIn X' (by kernel_rfl)
  have b1 : Looks (model prog w) h2 (bindSpecial (.builtin "object.__init__") (.ref x)) (.builtin "object.__init__", [.ref x]) := Looks.of_pure (oi_bind _)
  have n1 : Looks (model prog w) h2 (typeLookup (.ref 135) "__new__") (some (.ref 136)) := looks_findIn X' (by kernel_rfl)
  unfold isInstance callSpecial? specialOf
  repeat (first | with_reducible refine wpAny_call ?_ | lk)
  refine codeAny_call_builtin oi_plain entry_oi (@check_slot (model prog w) _ _ _ "object.__init__" "object" "__init__" (.ref x) [a, b, c] [] _ oi_kind oi_split (t1.andThen s2) ?_ ?_)
  · unfold argsOk; kernel_rfl
  have md2 := made135 (M := model prog w) X'
  unfold Builtin.«object.__init__»
  repeat (first | with_reducible refine wpAny_call ?_ | lk)
  exact hr
end
end Mine
end
section
open PySem PySem.W PySem.Calls PyProof.Rows
set_option maxRecDepth 100000
namespace Mine
theorem meta_tuple : typeOf (.type "tuple") = pure (.type "type") := by first | rfl | kernel_rfl
set_option maxHeartbeats 2000000 in
theorem find_tn (P : Params) : findCls (K P) (.type "tuple") (.type "type") (Str.ofString "__new__") = some (.val (.builtin "tuple.__new__")) := by k_dflt k_is
theorem stub_tuple : Manifest.isStub "tuple" = false := by decide +kernel
theorem handed_tn : handedIn (.builtin "tuple.__new__") = true := by k_handed
theorem method_tn {w : World} {A : Around} {E : Value → Shared → Prop} {s : Shared} {h₀ : Heap} {L : Addr} {m : Str → Option Value} {pl : Sem Bool} {Q : Value × List Value → Shared → Prop} (F : Fr h₀ L s.heap m) (X₀ : (K w.params).In h₀)
    (h : Q (.builtin "tuple.__new__", []) { s with toks := s.toks + 1 }) : wpAny (model pw w) A (getMethod (.type "tuple") (Str.ofString "__new__") pl) Q E s :=
  method_type (K := K w.params) (T := "tuple") (v := .builtin "tuple.__new__") F X₀ meta_tuple stub_tuple (find_tn _) handed_tn h
set_option maxHeartbeats 2000000 in
theorem call_match {w : World} {A₀ : Around} {E : Value → Shared → Prop} {s : Shared} {base h₀ : Heap} {outer : List Env} {L a : Addr} {m mg mb : Str → Option Value} {cn : Str} {cs : Scope} {ccd : Value} {mean : ExcName → Option Value} {news : List (Addr × Obj)}
    {va vb vc : Value} {Q : Value → Shared → Prop}
    (X : (K w.params).In h₀) (T : Top qv (looseW qv loose) mean mg mb h₀) (B : Below A₀ base outer h₀)
    (F : Fr h₀ L s.heap m) (N : News h₀ L s.heap news)
    (hcs : cs.kind = .function) (hroom : A₀.depth < 900)
    (k : ∀ x dx h' tk, Fr h₀ L h' m → News h₀ L h' ((x, mObj dx va vb vc) :: news) → (∀ p ∈ news, p.1 < x) → L < x → Q (.ref x) { s with heap := h', toks := tk }) :
    wpAny (model pw w) (A₀.deeper (envOf cn cs L a ccd)) (call (.ref 135) [va, vb, vc]) Q E s := by
  refine wpAny_call ?_
  obtain ⟨hh, gg, dd, tt, oo⟩ := s
  refine call135 (X.keeps F.keep) ?_
  refine code_def (s := ⟨hh, gg, dd, tt + 1, oo⟩) (env := envOf cn cs L a ccd) (binds := [(Str.ofString "_cls", .ref 135), (Str.ofString "a", va), (Str.ofString "b", vb), (Str.ofString "size", vc)]) B F X N T (by show Option.map _ A₀.frames = _; rw [B.stack]; rfl) rfl hcs (by k_is) (by k_is) ?_ (BindsTo.of_eq rfl) (locs rfl) ?_ rfl rfl rfl (by decide)
  · simp only [depth_under_make, depth_deeper]
    show A₀.depth + 1 + 1 < 1000
    omega
  intro g' L' h' FG' F' N' B' X' T'
  conv in B82 => whnf
  try dsimp only
  k_fold
  repeat (first | (k_unfold; (try dsimp only)) | (first | (k_here; (with_reducible show wpAny _ _ (getMethod (Value.type "tuple") _ _) _ _ _); k_dflt (refine method_tn (by k_asm) (by k_asm) ?_)) | walk1) | (dsimp only; (first | (k_here; (with_reducible show wpAny _ _ (getMethod (Value.type "tuple") _ _) _ _ _); k_dflt (refine method_tn (by k_asm) (by k_asm) ?_)) | walk1)))
  rename Fr g' L' _ _ => F9
  rename News g' L' _ _ => N9
  refine wpAny_call (tuple_new135 (X'.keeps F9.keep) (N9 _ (.head _)).1 fun h2 hk => ?_)
  have F3 : Fr g' L' h2 _ := ⟨F9.ns.keeps hk, fun b o e => hk _ _ (F9.keep b o e), F9.above⟩
  have N3 : News g' L' h2 news := fun p hp => ⟨hk _ _ (N9 p (.tail _ hp)).1, (N9 p (.tail _ hp)).2⟩
  have F4 := (F3.push emptyDict).push (mObj h2.objs.size va vb vc)
  have N4 := (N3.push F3 emptyDict).push (F3.push _) (mObj h2.objs.size va vb vc)
  rw [Heap.size_push] at N4
  show LeaveK _ _ _ _ _ _ _
  refine leaveK_ F4 N4 fun F5 N5 => ?_
  refine ⟨h2.objs.size + 1, h2.objs.size, rfl, (N5 _ (.head _)).1, X.keeps F5.keep, ?_⟩
  refine k _ h2.objs.size _ _ F5 (fun p hp => N5 p (by simp only [List.mem_cons] at hp ⊢; rcases hp with h | h <;> simp [h])) (fun p hp => Nat.lt_succ_of_lt (Heap.lt_size (N3 p hp).1)) ?_
  exact Nat.lt_succ_of_lt (Nat.lt_of_lt_of_le FG'.ns.lt (Nat.le_trans F3.above (Nat.le_of_lt F3.ns.lt)))
end Mine
end
section
open PySem PySem.W PySem.Calls PyProof.Rows
set_option maxRecDepth 100000
namespace Mine
set_option maxHeartbeats 4000000 in
theorem flm_tail {w : World} {e1 e2 : Env} {s : Shared} {g : Heap} {L la lb D S1 l9 D2 q9 : Addr} {mg mb m' : Str → Option Value} {mean : ExcName → Option Value} {alo ahi blo bhi : Int} {t1 t2 t3 t4 u4 u5 u6 : Tok} {n : Nat} {va vb : List Value} {as bs : List Int} {post : List (Addr × Obj)}
    (X : (K w.params).In g) (T : Top qv (looseW qv loose) mean mg mb g) {bi bj bk : Int}
    (F : Fr g L s.heap (over (outS (.int alo t1) (.int ahi t2) (.ref lb) (.ref q9) D la l9 D2 (.int blo t3) (.int bhi t4) (.int bi u4) (.int bj u5) (.int bk u6)) m'))
    (N : News g L s.heap ((q9, bmObj "set.__contains__" S1) :: post))
    (hS : g.SetOf (intKind pw w) S1 (fun _ => false) n)
    (hla : g.IsList la va.toArray) (hva : IntsAre va as) (hi2 : (as.length : Int) < 100000)
    (hlb : g.IsList lb vb.toArray) (hvb : IntsAre vb bs) (hj2 : (bs.length : Int) < 100000)
    (a0 : 0 ≤ alo) (a1 : alo ≤ ahi) (a2 : ahi ≤ as.length) (b0 : 0 ≤ blo) (b1 : blo ≤ bhi) (b2 : bhi ≤ bs.length)
    (c0 : 0 ≤ bk) (c1 : alo ≤ bi) (c2 : bi + bk ≤ ahi) (c3 : blo ≤ bj) (c4 : bj + bk ≤ bhi)
    (p1 : alo < bi → blo < bj → as.getD (bi - 1).toNat 0 ≠ bs.getD (bj - 1).toNat 0)
    (p2 : bi + bk < ahi → bj + bk < bhi → as.getD (bi + bk).toNat 0 ≠ bs.getD (bj + bk).toNat 0) {Q : Flow → Shared → Prop} {base : Heap} {outer : List Env} (B : Below ((callerA.deeper e1).deeper e2) base outer g)
    (k : ∀ x dx h' tk, Fr g L h' (over (outS (.int alo t1) (.int ahi t2) (.ref lb) (.ref q9) D la l9 D2 (.int blo t3) (.int bhi t4) (.int bi u4) (.int bj u5) (.int bk u6)) m') → News g L h' ((x, mObj dx (.int bi u4) (.int bj u5) (.int bk u6)) :: post) → (∀ p ∈ post, p.1 < x) → L < x → Q (.ret (.ref x)) { s with heap := h', toks := tk }) :
    wpAny (model pw w) (((callerA.deeper e1).deeper e2).deeper (envF L)) (execs TB (envF L)) Q (fun _ _ => False) s := by
  conv in TB => whnf
  show wpAny _ _ (execs _ _) _ _ _
  walk1
  refine while_no (test0 X T F N hS hla hva hi2 hlb hvb hj2 a0 a1 a2 b0 b1 b2 c0 c1 c2 c3 c4 p1) (fun tk => ?_)
  dsimp only
  walk1
  refine while_no (test1 X T F N hS hla hva hi2 hlb hvb hj2 a0 a1 a2 b0 b1 b2 c0 c1 c2 c3 c4 p2) (fun tk => ?_)
  dsimp only
  walk1
  refine while_no (test2 X T F N hS hla hva hi2 hlb hvb hj2 a0 a1 a2 b0 b1 b2 c0 c1 c2 c3 c4) (fun tk => ?_)
  dsimp only
  walk1
  refine while_no (test3 X T F N hS hla hva hi2 hlb hvb hj2 a0 a1 a2 b0 b1 b2 c0 c1 c2 c3 c4) (fun tk => ?_)
  dsimp only
  repeat (first | walk1 | (dsimp only; walk1))
  refine call_match X T B F (fun p hp => N p (.tail _ hp)) rfl (by simp only [depth_deeper, depth_caller]; decide) ?_
  intro x dx h' tk' F' N' hlt hL
  exact k x dx h' tk' F' N' hlt hL
end Mine
end
section
open PySem PySem.W PySem.Calls PyProof.Rows
set_option maxRecDepth 100000
namespace Mine
theorem getAttr_scB {prog : Program} {w : World} {A : Around} {E : Value → Shared → Prop} {s : Shared} {g : Heap} {L S1 : Addr} {m : Str → Option Value} {news : List (Addr × Obj)} {n : Nat} {S : Int → Bool} {Q : Value → Shared → Prop}
    (F : Fr g L s.heap m) (N : News g L s.heap news) (hS : g.SetOf (intKind prog w) S1 S n)
    (h : ∀ q h' tk, Fr g L h' m → News g L h' ((q, bmObj "set.__contains__" S1) :: news) → (∀ p ∈ news, p.1 < q) → Q (.ref q) { s with heap := h', toks := tk }) :
    wpAny (model prog w) A (getAttr (.ref S1) "__contains__" true) Q E s := by
  obtain ⟨o, es, k, tb, ho, ⟨a1, a2, a3⟩, hd, _⟩ := hS
  obtain ⟨c, dd, dat, sl⟩ := o
  simp only at a1 a2 a3 hd
  subst a1 a2 a3 hd
  exact getAttr_sc (F.keep _ _ ho) fun tk => h s.heap.objs.size _ tk (F.push _) (N.push F _) fun p hp => Heap.lt_size (N p hp).1
noncomputable abbrev flmD (P : Params) (t : Nat → Tok) (la lb : Addr) (vmb vop : Value) (D S1 : Addr) (vbp : Value) : Obj :=
  dictOf [kE P "isjunk" (t 0) .none, kE P "a" (t 1) (.ref la), kE P "b" (t 2) (.ref lb), kE P "autojunk" (t 3) (.bool false), kE P "matching_blocks" (t 4) vmb, kE P "opcodes" (t 5) vop, kE P "fullbcount" (t 6) .none, kE P "b2j" (t 7) (.ref D), kE P "bjunk" (t 8) (.ref S1), kE P "bpopular" (t 9) vbp] 10
theorem news_swap {g h : Heap} {L : Addr} {a b : Addr × Obj} {r : List (Addr × Obj)} (N : News g L h (a :: b :: r)) : News g L h (b :: a :: r) := fun p hp => N p (by simp only [List.mem_cons] at hp ⊢; rcases hp with h | h | h <;> simp [h])
theorem fr_over {g h : Heap} {L : Addr} {mm : Str → Option Value} {S : List (Str × Value)} (F : Fr g L h mm) (hs : ∀ p ∈ S, mm p.1 = some p.2) : Fr g L h (over S mm) := by rw [over_self hs]; exact F
set_option maxHeartbeats 4000000 in
theorem flm_body {w : World} {e1 e2 : Env} {s : Shared} {g : Heap} {L M dM la lb D S1 : Addr} {mg mb : Str → Option Value} {mean : ExcName → Option Value} {t : Nat → Tok} {vmb vop vbp : Value} {Q : Flow → Shared → Prop} {alo ahi blo bhi : Int} {t1 t2 t3 t4 : Tok} {n : Nat} {f : Int → Option Value} {js : Int → List Int} {va vb : List Value} {as bs : List Int}
    (X : (K w.params).In g) (T : Top qv (looseW qv loose) mean mg mb g)
    (F : Fr g L s.heap (fun y => List.lookup y [(Str.ofString "self", Value.ref M), (Str.ofString "alo", .int alo t1), (Str.ofString "ahi", .int ahi t2), (Str.ofString "blo", .int blo t3), (Str.ofString "bhi", .int bhi t4)].reverse))
    (N : News g L s.heap [(M, instObj 242 dM), (dM, dictOf [kE w.params "isjunk" (t 0) .none, kE w.params "a" (t 1) (.ref la), kE w.params "b" (t 2) (.ref lb), kE w.params "autojunk" (t 3) (.bool false), kE w.params "matching_blocks" (t 4) vmb, kE w.params "opcodes" (t 5) vop, kE w.params "fullbcount" (t 6) .none, kE w.params "b2j" (t 7) (.ref D), kE w.params "bjunk" (t 8) (.ref S1), kE w.params "bpopular" (t 9) vbp] 10)])
    (hS : g.SetOf (intKind pw w) S1 (fun _ => false) n)
    (hD : g.MapOf (intKind pw w) D f) (hDn : (D == sysModules) = false) (hla : g.IsList la va.toArray) (hva : IntsAre va as) (hi2 : (as.length : Int) < 100000)
    (hlb : g.IsList lb vb.toArray) (hvb : IntsAre vb bs) (hj2 : (bs.length : Int) < 100000)
    (hB : ∀ v, (f v = none ∧ js v = []) ∨ ∃ lv vj, f v = some (.ref lv) ∧ g.IsList lv vj.toArray ∧ IntsAre vj (js v)) (hjs : ∀ v, (js v).length ≤ 100000)
    (a0 : 0 ≤ alo) (a1 : alo ≤ ahi) (a2 : ahi ≤ as.length) (b0 : 0 ≤ blo) (b1 : blo ≤ bhi) (b2 : bhi ≤ bs.length) {bi bj bk : Int} {kvf : List (Int × Int)} (hrows : rows js as alo blo bhi ⟨alo, blo, 0, []⟩ (ahi - alo).toNat = ⟨bi, bj, bk, kvf⟩)
    (c0 : 0 ≤ bk) (c1 : alo ≤ bi) (c2 : bi + bk ≤ ahi) (c3 : blo ≤ bj) (c4 : bj + bk ≤ bhi)
    (p1 : alo < bi → blo < bj → as.getD (bi - 1).toNat 0 ≠ bs.getD (bj - 1).toNat 0)
    (p2 : bi + bk < ahi → bj + bk < bhi → as.getD (bi + bk).toNat 0 ≠ bs.getD (bj + bk).toNat 0) {base : Heap} {outer : List Env} (B : Below ((callerA.deeper e1).deeper e2) base outer g)
    (k : ∀ x dx u4 u5 u6 h' tk m', Fr g L h' m' → News g L h' [(x, mObj dx (.int bi u4) (.int bj u5) (.int bk u6)), (M, instObj 242 dM), (dM, flmD w.params t la lb vmb vop D S1 vbp)] → L < x → Q (.ret (.ref x)) { s with heap := h', toks := tk }) :
    wpAny (model pw w) (((callerA.deeper e1).deeper e2).deeper (envF L)) (execs B196 (envF L)) Q (fun _ _ => False) s := by
  conv in B196 => whnf
  show wpAny _ _ (execs _ _) _ _ _
  iterate 94 (first | (first | (k_here; (with_reducible show wpAny _ _ (getAttr (Value.ref _) (PySem.Str.ofString "__contains__") _) _ _ _); k_dflt (refine' getAttr_scB ?F ?N ?d ?_; (case F => k_asm); (case N => k_asm); (case d => k_asm); k_whole); intro q' h' tk' F' N' l1; (try k_lt l1); (try k_sweep)) | walk1) | (dsimp only; (first | (k_here; (with_reducible show wpAny _ _ (getAttr (Value.ref _) (PySem.Str.ofString "__contains__") _) _ _ _); k_dflt (refine' getAttr_scB ?F ?N ?d ?_; (case F => k_asm); (case N => k_asm); (case d => k_asm); k_whole); intro q' h' tk' F' N' l1; (try k_lt l1); (try k_sweep)) | walk1)))
  refine For_invV g (by rfl) (by rfl) ?_
  iterate 9 (first | (first | (k_here; (with_reducible show wpAny _ _ (getAttr (Value.ref _) (PySem.Str.ofString "__contains__") _) _ _ _); k_dflt (refine' getAttr_scB ?F ?N ?d ?_; (case F => k_asm); (case N => k_asm); (case d => k_asm); k_whole); intro q' h' tk' F' N' l1; (try k_lt l1); (try k_sweep)) | walk1) | (dsimp only; (first | (k_here; (with_reducible show wpAny _ _ (getAttr (Value.ref _) (PySem.Str.ofString "__contains__") _) _ _ _); k_dflt (refine' getAttr_scB ?F ?N ?d ?_; (case F => k_asm); (case N => k_asm); (case d => k_asm); k_whole); intro q' h' tk' F' N' l1; (try k_lt l1); (try k_sweep)) | walk1)))
  rename IsRange _ _ _ _ _ _ _ _ => R9
  rename Fr g L _ _ => F9
  rename News g L _ _ => N9
  rename (∀ b o, Heap.get? _ b = some o → Heap.get? _ b = some o) => K9
  rename_i T1 _ _ _ _ _ _ _ tk9 T2 _ _ _ _ _ _ _ d9 _ o9 lo9 _ _ hi9 _ _ _ l9 _ _ _ _ _ _ _ _ _ _
  have hdo : DObj pw w o9 [] := by
    obtain ⟨o2, e2, d2⟩ := DObj.of (Heap.dictOf_iff.mpr ⟨_, (N9 (d9, o9) (by simp)).1, hi9⟩)
    rw [(N9 (d9, o9) (by simp)).1] at e2; cases e2; exact d2
  have hn : Builtin.Range.rangeSize alo ahi 1 = ((ahi - alo).toNat : Int) := rangeSize_nat _ _
  have F10 := fr_over (S := outS (.int alo t1) (.int ahi t2) (.ref lb) (.ref q') D la l9 d9 (.int blo t3) (.int bhi t4) (.int alo t1) (.int blo t3) (.int 0 tk9)) F9
    (by repeat (first | exact List.forall_mem_nil _ | refine List.forall_mem_cons.mpr ⟨rfl, ?_⟩))
  refine outer_loop (w := w) (alo := alo) (ahi := ahi) (st := ⟨alo, blo, 0, []⟩) X T R9 (by exact small_one (by omega) (by omega) (by omega) (by omega)) hn a0 (by omega) 
    F10 (news_swap N9) hD hDn hla hva hi2 hB hjs hdo .nil lo9 ?_
  rw [hrows]
  clear F9 N9 K9 R9 F10
  intro h' tk D2 o' u4 u5 u6 m' F9 N9
  dsimp only at F9 ⊢
  refine flm_tail (post := [(M, instObj 242 dM), (dM, flmD w.params t la lb vmb vop D S1 vbp)]) X T F9 (fun p hp => N9 p (by simp only [List.mem_cons, List.not_mem_nil, or_false] at hp ⊢; rcases hp with h | h | h <;> simp [h])) hS hla hva hi2 hlb hvb hj2 a0 a1 a2 b0 b1 b2 c0 c1 c2 c3 c4 p1 p2 B ?_
  intro x dx h' tk' F' N' hlt hL
  exact k x dx u4 u5 u6 h' tk' _ F' N' hL
end Mine
end
section
open PySem PySem.W PySem.Calls PyProof.Rows
namespace Mine
/-- the places of v in bs from place n on -/
noncomputable def idxs (v : Int) : List Int → Nat → List Int
  | [], _ => []
  | b :: r, n => if b = v then (n : Int) :: idxs v r (n + 1) else idxs v r (n + 1)
theorem idxs_ge {v : Int} : ∀ {bs : List Int} {n : Nat} {j : Int}, j ∈ idxs v bs n → (n : Int) ≤ j
  | [], _, _, h => by cases h
  | b :: r, n, j, h => by
    unfold idxs at h
    split at h
    · rcases List.mem_cons.mp h with rfl | h
      · omega
      · have := idxs_ge h; omega
    · have := idxs_ge h; omega
theorem idxs_length (v : Int) : ∀ (bs : List Int) (n : Nat), (idxs v bs n).length ≤ bs.length
  | [], _ => by simp [idxs]
  | b :: r, n => by
    have := idxs_length v r (n + 1)
    unfold idxs
    split <;> simp <;> omega
end Mine
end
section
open PySem PySem.W PySem.Calls PyProof.Rows
set_option maxRecDepth 100000
namespace Mine
section
variable {prog : Program} {w : World} {A A₀ : Around} {s : Shared} {K : Frag} {L : Addr} {h₀ base : Heap} {m mg mb : Str → Option Value} {news : List (Addr × Obj)} {p : Program} {loose : List Str} {mean : ExcName → Option Value}
/-- a call of an own def; what is off the ledger handed over stands in the callee's base -/
theorem code_defR {env : Env} {outer : List Env} {R : Result → Shared → Prop} {name qual : Str} {params : Arguments} {body : List Stmt} {scope : Scope} {dV kV doc pm cdv ct oc : Value} {an od : Option Addr} {osl : Array (Option Value)} {f : Addr} {args : Args} {binds : List (Str × Value)}
    (B : Below A₀ base outer h₀) (F : Fr h₀ L s.heap m) (X₀ : K.In h₀) (N : News h₀ L s.heap news) (T : Top p loose mean mg mb h₀) (hA : A.frames = some (env :: outer)) (hf : env.frame = some L) (hke : env.scope.kind = .function)
    (ho : K.lookup f = some ⟨oc, od, .func (fnOf name qual params body scope dV kV doc pm an cdv ct), osl⟩) (hcd : codeIn K cdv qual = true) (hroom : A.depth < recursionLimit)
    (hbind : BindsTo s (fnOf name qual params body scope dV kV doc pm an cdv ct) args binds) (hloc : ∀ y ∈ binds, scope.names.lookup y.1 = some .local)
    (h : ∀ g L' h₁, Fr h₀ L g m → Fr g L' h₁ (fun y => binds.reverse.lookup y) → News g L' h₁ news → Below A base (env :: outer) g → K.In g → Top p loose mean mg mb g → (∀ b o, s.heap.get? b = some o → b ∉ news.map (·.1) → g.get? b = some o) → (∀ b o, s.heap.get? b = some o → b < L') →
      wpAny (model prog w) (A.deeper (envOf qual scope L' f cdv)) (execs body (envOf qual scope L' f cdv))
        (fun fl s' => LeaveK h₀ L m g R (match fl with | .ret v => v | _ => .none) s')
        (fun e s' => wpAny (model prog w) (A.deeper (envOf qual scope L' f cdv)) («leaving» (envOf qual scope L' f cdv) e) (fun _ s'' => R (.error e) s'') (fun e' s'' => R (.error e') s'') s')
        { s with heap := h₁, toks := s.toks + binds.length })
    (hco : scope.isCoroutine = false) (hgen : scope.isGenerator = false) (hk : scope.kind = .function)
    (hcell : ∀ x ∈ scope.names, x.2 ≠ .cell) : codeAny (model prog w) A (.call (.ref f) args) R s := by
  obtain ⟨FG, BG, st, lv⟩ := groundX (R := R) B F N hA hf hke
  refine codeAny_call_def (fd := fnOf name qual params body scope dV kV doc pm an cdv ct) (body := body) (binds := binds) hroom ((X₀.keeps F.keep) _ _ ho) rfl (T.nolimit.keeps F.keep) (codeRec_of (X₀.keeps F.keep) hcd) rfl hbind hcell hloc (fun h₁ hns hk₁ => ?_) hco hgen hk
  exact wpAny_mono (h _ s.heap.objs.size h₁ FG ⟨hns, fun b o e => hk₁ b o (of_hideAll _ e), Nat.le_of_eq (hideAll_size _ _)⟩
    (fun p hp => ⟨hk₁ _ _ (N p hp).1, Nat.ne_of_lt (Heap.lt_size (N p hp).1), hideAll_none _ (List.mem_map_of_mem hp)⟩) BG (X₀.keeps st) (T.keeps st) (fun b o e n => hideAll_get _ e n) (fun b o e => Heap.lt_size e)) (fun fl s' hl => lv _ _ hl) fun _ _ y => y
end
theorem fr_ext {g h h' : Heap} {L : Addr} {m : Str → Option Value} (F : Fr g L h m) (hk : ∀ b o, h.get? b = some o → h'.get? b = some o) : Fr g L h' m := ⟨F.ns.keeps hk, fun b o e => hk _ _ (F.keep b o e), F.above⟩
theorem news_ext {g h h' : Heap} {L : Addr} {news : List (Addr × Obj)} (N : News g L h news) (hk : ∀ b o, h.get? b = some o → h'.get? b = some o) : News g L h' news := fun p hp => ⟨hk _ _ (N p hp).1, (N p hp).2⟩
/-- what find_longest_match reads: the matcher, its two lists, its table of places -/
structure Ready (w : World) (h : Heap) (M dM : Addr) (t : Nat → Tok) (la lb : Addr) (vmb vop : Value) (D S1 : Addr) (vbp : Value) (as bs : List Int) : Prop where
  ne : M ≠ dM
  off : la ≠ M ∧ la ≠ dM ∧ lb ≠ M ∧ lb ≠ dM ∧ D ≠ M ∧ D ≠ dM ∧ S1 ≠ M ∧ S1 ≠ dM
  la_ : ∃ va : List Value, h.IsList la va.toArray ∧ IntsAre va as
  lb_ : ∃ vb : List Value, h.IsList lb vb.toArray ∧ IntsAre vb bs
  alen : (as.length : Int) < 100000
  blen : (bs.length : Int) < 100000
  set_ : ∃ n, h.SetOf (intKind pw w) S1 (fun _ => false) n
  dn : (D == sysModules) = false
  map_ : ∃ f : Int → Option Value, h.MapOf (intKind pw w) D f ∧ ∀ v, (f v = none ∧ idxs v bs 0 = []) ∨ ∃ lv vj, f v = some (.ref lv) ∧ lv ≠ M ∧ lv ≠ dM ∧ h.IsList lv vj.toArray ∧ IntsAre vj (idxs v bs 0)
theorem Heap.MapOf.to {prog : Program} {w : World} {h g : Heap} {D : Addr} {f : Int → Option Value} (hm : h.MapOf (intKind prog w) D f) (hk : ∀ o, h.get? D = some o → g.get? D = some o) : g.MapOf (intKind prog w) D f := let ⟨o, es, ep, ho, r⟩ := hm; ⟨o, es, ep, hk _ ho, r⟩
theorem Heap.SetOf.to {prog : Program} {w : World} {h g : Heap} {D : Addr} {S : Int → Bool} {n : Nat} (hm : h.SetOf (intKind prog w) D S n) (hk : ∀ o, h.get? D = some o → g.get? D = some o) : g.SetOf (intKind prog w) D S n := let ⟨o, es, ep, tb, ho, r⟩ := hm; ⟨o, es, ep, tb, hk _ ho, r⟩
theorem isList_to {h g : Heap} {l : Addr} {vs : Array Value} (hl : h.IsList l vs) (hk : ∀ o, h.get? l = some o → g.get? l = some o) : g.IsList l vs := let ⟨o, ho, r⟩ := hl; ⟨o, hk _ ho, r⟩
set_option maxHeartbeats 2000000 in
theorem flm_call {w : World} {e1 : Env} {E : Value → Shared → Prop} {s : Shared} {base h₀ : Heap} {outer : List Env} {L a : Addr} {m mg mb : Str → Option Value} {cn : Str} {cs : Scope} {ccd : Value} {mean : ExcName → Option Value} {news : List (Addr × Obj)}
    {M dM la lb D S1 : Addr} {t : Nat → Tok} {vmb vop vbp : Value} {as bs : List Int} {alo ahi blo bhi bi bj bk : Int} {kvf : List (Int × Int)} {t1 t2 t3 t4 : Tok} {Q : Value → Shared → Prop}
    (X : (K w.params).In h₀) (T : Top qv (looseW qv loose) mean mg mb h₀) (B : Below (callerA.deeper e1) base outer h₀)
    (F : Fr h₀ L s.heap m) (N : News h₀ L s.heap news) (hM : (M, instObj 242 dM) ∈ news) (hdM : (dM, flmD w.params t la lb vmb vop D S1 vbp) ∈ news)
    (hcs : cs.kind = .function) (R : Ready w s.heap M dM t la lb vmb vop D S1 vbp as bs)
    (a0 : 0 ≤ alo) (a1 : alo ≤ ahi) (a2 : ahi ≤ as.length) (b0 : 0 ≤ blo) (b1 : blo ≤ bhi) (b2 : bhi ≤ bs.length)
    (hrows : rows (fun v => idxs v bs 0) as alo blo bhi ⟨alo, blo, 0, []⟩ (ahi - alo).toNat = ⟨bi, bj, bk, kvf⟩)
    (c0 : 0 ≤ bk) (c1 : alo ≤ bi) (c2 : bi + bk ≤ ahi) (c3 : blo ≤ bj) (c4 : bj + bk ≤ bhi)
    (p1 : alo < bi → blo < bj → as.getD (bi - 1).toNat 0 ≠ bs.getD (bj - 1).toNat 0)
    (p2 : bi + bk < ahi → bj + bk < bhi → as.getD (bi + bk).toNat 0 ≠ bs.getD (bj + bk).toNat 0)
    (k : ∀ x dx u4 u5 u6 h' tk, (∀ b o, s.heap.get? b = some o → h'.get? b = some o) → Fr h₀ L h' m → News h₀ L h' ((x, mObj dx (.int bi u4) (.int bj u5) (.int bk u6)) :: news) → (∀ p ∈ news, p.1 < x) → Q (.ref x) { s with heap := h', toks := tk }) :
    wpAny (model pw w) ((callerA.deeper e1).deeper (envOf cn cs L a ccd)) (call (.ref 196) [.ref M, .int alo t1, .int ahi t2, .int blo t3, .int bhi t4]) Q E s := by
  obtain ⟨rne, roff, ⟨va, hla, hva⟩, ⟨vb, hlb, hvb⟩, ral, rbl, ⟨n, hS⟩, rdn, ⟨f, hD, hB⟩⟩ := R
  have N2 : News h₀ L s.heap [(M, instObj 242 dM), (dM, flmD w.params t la lb vmb vop D S1 vbp)] := fun p hp => N p (by simp only [List.mem_cons, List.not_mem_nil, or_false] at hp; rcases hp with rfl | rfl; exact hM; exact hdM)
  refine wpAny_call ?_
  refine code_defR (env := envOf cn cs L a ccd) (binds := [(Str.ofString "self", .ref M), (Str.ofString "alo", .int alo t1), (Str.ofString "ahi", .int ahi t2), (Str.ofString "blo", .int blo t3), (Str.ofString "bhi", .int bhi t4)]) B F X N2 T (by show Option.map _ (callerA.deeper e1).frames = _; rw [B.stack]; rfl) rfl hcs (by k_is) (by k_is) (by simp only [depth_deeper, depth_caller]; decide) (binds_K (K := K w.params) (X.keeps F.keep) rfl (by k_is) rfl rfl rfl) (locs rfl) ?_ rfl rfl rfl (by decide)
  intro g L' h1 FG F' N' B' X' T' hg hlt
  have hg' : ∀ b, b ≠ M → b ≠ dM → ∀ o, s.heap.get? b = some o → g.get? b = some o := fun b n1 n2 o e => hg b o e (by simp [n1, n2])
  obtain ⟨o1, o2, o3, o4, o5, o6, o7, o8⟩ := roff
  refine wpAny_mono (flm_body (s := { s with heap := h1, toks := _ }) X' T' F' N' (Heap.SetOf.to hS (hg' _ o7 o8)) (Heap.MapOf.to hD (hg' _ o5 o6)) rdn (isList_to hla (hg' _ o1 o2)) hva ral (isList_to hlb (hg' _ o3 o4)) hvb rbl (js := fun v => idxs v bs 0) ?_ ?_ a0 a1 a2 b0 b1 b2 hrows c0 c1 c2 c3 c4 p1 p2 B' (Q := fun fl s' => LeaveK h₀ L m g (fun r s' => match r with | .ok (.ret v) => Q v s' | .ok _ => False | .error e => E e s') (match fl with | .ret v => v | _ => .none) s') ?_) (fun _ _ e => e) (fun _ _ e => e.elim)
  · intro v
    rcases hB v with h | ⟨lv, vj, h1, n1, n2, h2, h3⟩
    · exact .inl h
    · exact .inr ⟨lv, vj, h1, isList_to h2 (hg' _ n1 n2), h3⟩
  · intro v
    have := idxs_length v bs 0
    show (idxs v bs 0).length ≤ 100000
    omega
  · intro x dx u4 u5 u6 h' tk m' F2 N3 lx
    refine leaveK_ F2 N3 fun F5 N5 => ?_
    have hk : ∀ b o, s.heap.get? b = some o → h'.get? b = some o := by
      intro b o e
      by_cases e1 : b = M
      · subst e1
        have h1 := (N2 _ (.head _)).1
        rw [h1] at e; cases e
        exact (N5 _ (.tail _ (.head _))).1
      · by_cases e2 : b = dM
        · subst e2
          have h1 := (N2 _ (.tail _ (.head _))).1
          rw [h1] at e; cases e
          exact (N5 _ (.tail _ (.tail _ (.head _)))).1
        · exact F2.keep _ _ (hg' b e1 e2 o e)
    refine k x dx u4 u5 u6 h' tk hk F5 (fun p hp => ?_) (fun p hp => ?_)
    · rcases List.mem_cons.mp hp with rfl | hp
      · exact N5 _ (.head _)
      · exact news_ext N hk p hp
    · exact Nat.lt_trans (hlt _ _ (N p hp).1) lx
end Mine
end
section
open PySem PySem.W PySem.Calls PyProof.Rows
set_option maxRecDepth 100000
namespace Mine
section
variable {prog : Program} {w : World} {A : Around} {E : Value → Shared → Prop} {s : Shared} {x dx it : Addr} {a b c : Value}
theorem ifBound_look {M : Model} {h : Heap} {v f : Value} {name : Str} {r : Value × List Value} (t : Looks M h (specialOf v name) (some f)) (b : bindSpecial f v = pure r) : Looks M h (bindSpecialIfBound? v name) (some r) := by
  intro A Q E s k q
  unfold bindSpecialIfBound?
  refine wpAny_bind (t A _ E s k ?_)
  dsimp only
  rw [b]
  refine wpAny_bind (wpAny_askSetting (wpAny_ite ?_))
  split
  · exact wpAny_bind (wpAny_pure (wpAny_pure q))
  · exact wpAny_tryCatch (wpAny_bind (wpAny_pure (wpAny_pure q)))
theorem type_match {M : Model} {h : Heap} (hx : h.get? x = some (mObj dx a b c)) : Looks M h (typeOf (.ref x)) (.ref 135) := (Looks.ld hx).andThen .now
theorem inst_match {M : Model} {h : Heap} {P : Params} (X : (K P).In h) (hx : h.get? x = some (mObj dx a b c)) : Looks M h (isInstance (.ref x) (.type "tuple")) true := (type_match hx).andThen (looks_mroIn X (by kernel_rfl))
theorem special_match {M : Model} {h : Heap} {P : Params} {name : Str} {r : Option Value} (X : (K P).In h) (hx : h.get? x = some (mObj dx a b c)) (e : findIn (K P) (.ref 135) name = some r) : Looks M h (specialOf (.ref x) name) r := (type_match hx).andThen (looks_findIn X e)
theorem find_iter (P : Params) : findIn (K P) (.ref 135) "__iter__" = some (some (.builtin "tuple.__iter__")) := by kernel_rfl
theorem find_len (P : Params) : findIn (K P) (.ref 135) "__len__" = some (some (.builtin "tuple.__len__")) := by kernel_rfl
theorem find_lt (P : Params) : findIn (K P) (.ref 135) "__lt__" = some (some (.builtin "tuple.__lt__")) := by kernel_rfl
theorem find_eq (P : Params) : findIn (K P) (.ref 135) "__eq__" = some (some (.builtin "tuple.__eq__")) := by kernel_rfl
theorem iter_match {Q : Value → Shared → Prop} (X : (K w.params).In s.heap) (hx : s.heap.get? x = some (mObj dx a b c))
    (hQ : Q (.ref s.heap.objs.size) { s with heap := s.heap.push { cls := .type "tuple_iterator", data := .fields #[.ref x, .int 0 0] } }) :
    wpAny (model prog w) A (pyIter (.ref x)) Q E s := by
  unfold pyIter
  refine wpAny_bind ((special_match X hx (find_iter _)).here ?_)
  show wpAny _ _ (callSpecialIfBoundUnlessNone? (.ref x) "__iter__" _ >>= _) _ _ _
  unfold callSpecialIfBoundUnlessNone?
  refine wpAny_bind (wpAny_holding (wpAny_bind ((ifBound_look (special_match X hx (find_iter _)) (PySem.F.slot_tuple_iter.bind _)).here ?_)))
  dsimp only
  rw [if_neg (by decide)]
  refine wpAny_bind (wpAny_call (codeAny_call_builtin PySem.F.slot_tuple_iter.plain PySem.F.entry_tuple_iter (@check_slot (model prog w) _ _ s "tuple.__iter__" "tuple" "__iter__" (.ref x) [] [] _ (by decide +kernel) (by decide +kernel) (inst_match X hx) (PySem.F.args_tuple_iter_1 _) ?_)))
  show wpAny _ _ (do ret (← newFields "tuple_iterator" [.ref x, rawInt 0])) _ _ _
  refine wpAny_bind (wpAny_newObj_type (wpAny_pure (wpAny_pure ?_)))
  exact wpAny_bind (wpAny_specialOf ⟨_, Heap.get?_push_size _ rfl, rfl⟩ PySem.F.slot_tuple_iterator_next.lookup (wpAny_pure hQ))
/-- the iterator's next item, whatever the class of what it walks -/
theorem next_item {tp : Addr} {o : Obj} {items : Array Value} {n i : Nat} {v : Value} {Q : Option Value → Shared → Prop} (hit : s.heap.IsTupleIter it tp i) (ho : s.heap.get? tp = some o) (hd : o.data = .seq items n) (hv : items[i]? = some v)
    (hQ : ∀ h', h'.IsTupleIter it tp (i + 1) → Heap.SameBut it s.heap h' → Q (some v) { s with heap := h' }) : wpAny (model prog w) A (pyNext (.ref it)) Q E s := by
  obtain ⟨oi, hoi, hci, hdi⟩ := id hit
  unfold pyNext
  refine wpAny_bind (wpAny_attempt (wpAny_callSpecial?_slot (name := Str.ofString "__next__") hit.typeIs PySem.F.slot_tuple_iterator_next (wpAny_call_entry PySem.F.slot_tuple_iterator_next hit.typeIs PySem.F.entry_tuple_iterator_next ?_ (PySem.F.args_tuple_iterator_next_1 _))))
  show wpAny _ _ (field (.ref it) 0 >>= _) _ _ s
  refine wpAny_bind (wpAny_field hoi hdi (x := .ref tp) rfl ?_)
  rw [if_neg (show ¬ ((Value.ref tp == Value.none) = true) from Bool.false_ne_true)]
  show wpAny _ _ (field (.ref it) 1 >>= _) _ _ s
  refine wpAny_bind (wpAny_field hoi hdi (x := .int i 0) rfl ?_)
  show wpAny _ _ (seqItems? (.ref tp) >>= _) _ _ s
  refine wpAny_bind (wpAny_seqItems ho hd ?_)
  simp only [Int.toNat_natCast, hv]
  refine wpAny_bind (wpAny_setField hoi hdi (by simp) (wpAny_pure ⟨v, rfl, wpAny_pure (hQ _ ⟨_, Heap.get?_update_self _ hoi (Obj.isFreed_of_fields (Obj.data_mapFields hdi _)), (Obj.cls_mapFields ..).trans hci, ?_⟩ (Heap.SameBut.update ..))⟩))
  rw [Obj.data_mapFields hdi]; simp [rawInt]
theorem next_end {tp : Addr} {o : Obj} {items : Array Value} {n i : Nat} {Q : Option Value → Shared → Prop} (hh : A.handled = none) (hit : s.heap.IsTupleIter it tp i) (ho : s.heap.get? tp = some o) (hd : o.data = .seq items n) (hv : items[i]? = none)
    (hQ : ∀ h', Heap.ExtBut it s.heap h' → Q none { s with heap := h' }) : wpAny (model prog w) A (pyNext (.ref it)) Q E s := by
  obtain ⟨oi, hoi, hci, hdi⟩ := id hit
  unfold pyNext
  refine wpAny_bind (wpAny_attempt (wpAny_callSpecial?_slot (name := Str.ofString "__next__") hit.typeIs PySem.F.slot_tuple_iterator_next (wpAny_call_entry PySem.F.slot_tuple_iterator_next hit.typeIs PySem.F.entry_tuple_iterator_next ?_ (PySem.F.args_tuple_iterator_next_1 _))))
  show wpAny _ _ (field (.ref it) 0 >>= _) _ _ s
  refine wpAny_bind (wpAny_field hoi hdi (x := .ref tp) rfl ?_)
  rw [if_neg (show ¬ ((Value.ref tp == Value.none) = true) from Bool.false_ne_true)]
  show wpAny _ _ (field (.ref it) 1 >>= _) _ _ s
  refine wpAny_bind (wpAny_field hoi hdi (x := .int i 0) rfl ?_)
  show wpAny _ _ (seqItems? (.ref tp) >>= _) _ _ s
  refine wpAny_bind (wpAny_seqItems ho hd ?_)
  simp only [Int.toNat_natCast, hv]
  refine wpAny_bind (wpAny_rule (wpAny_bind (wpAny_setField hoi hdi (by simp) ?_)))
  show wpAny _ _ (newExc (.type "StopIteration") [] >>= _) _ _ _
  refine wpAny_bind ?_
  simp only [newExc, newTuple]
  refine wpAny_bind (wpAny_newObj_type ?_ (by size_fits))
  refine wpAny_bind (m := firstArgMember _ _) (wpAny_of_eq (a := Value.none) (by first | rfl | (simp only [firstArgMember]; rfl)) ?_)
  refine wpAny_newObj_type ?_ (by size_fits)
  simp only [raiseNew]
  refine wpAny_bind (wpAny_handled ?_)
  first | rw [show A.in1.handled = none from hh] | rw [hh]
  refine wpAny_bind (wpAny_pure (wpAny_throw ?_))
  refine wpAny_bind (wpAny_isInstance (T := "StopIteration") (b := true) ⟨_, Heap.get?_push_size _ rfl, rfl⟩ isSubtype_stop ?_)
  exact wpAny_pure (hQ _ (((Heap.SameBut.update ..).extBut.push _).push _))
theorem unpack_match {Q : List Value → Shared → Prop} (hh : A.handled = none) (X : (K w.params).In s.heap) (hx : s.heap.get? x = some (mObj dx a b c))
    (hQ : ∀ h', Heap.ExtBut s.heap.objs.size s.heap h' → Q [a, b, c] { s with heap := h' }) : wpAny (model prog w) A (unpackItems (.ref x) 3 none) Q E s := by
  have hlt : x ≠ s.heap.objs.size := Nat.ne_of_lt (Heap.lt_size hx)
  unfold unpackItems
  refine wpAny_bind ?_
  unfold notIterableAtAll
  refine wpAny_bind ((special_match X hx (find_iter _)).here (wpAny_pure ?_))
  simp only [Bool.false_eq_true, if_false]
  refine wpAny_bind (wpAny_holding (iter_match X hx ?_))
  have h0 := Heap.get?_push_of_some ({ cls := .type "tuple_iterator", data := .fields #[.ref x, .int 0 0] } : Obj) hx
  refine wpAny_bind (wpAny_holding ?_)
  show wpAny _ _ (pyNext (.ref s.heap.objs.size) >>= _) _ _ _
  refine wpAny_bind (next_item (i := 0) ⟨_, Heap.get?_push_size _ rfl, rfl, rfl⟩ h0 rfl (v := a) rfl fun h1 i1 s1 => ?_)
  have x1 := s1.extBut x _ hlt h0
  refine wpAny_bind (wpAny_holding ?_)
  show wpAny _ _ (pyNext (.ref s.heap.objs.size) >>= _) _ _ _
  refine wpAny_bind (next_item (i := 1) i1 x1 rfl (v := b) rfl fun h2 i2 s2 => ?_)
  have x2 := s2.extBut x _ hlt x1
  refine wpAny_bind (wpAny_holding ?_)
  show wpAny _ _ (pyNext (.ref s.heap.objs.size) >>= _) _ _ _
  refine wpAny_bind (next_item (i := 2) i2 x2 rfl (v := c) rfl fun h3 i3 s3 => ?_)
  have x3 := s3.extBut x _ hlt x2
  refine wpAny_bind (wpAny_holding ?_)
  show wpAny _ _ (pure []) _ _ _
  refine wpAny_pure (wpAny_pure (wpAny_pure (wpAny_pure ?_)))
  show wpAny _ _ (if ([a, b, c] : List Value).length < 3 then _ else _) _ _ _
  rw [if_neg (by simp)]
  refine wpAny_bind (wpAny_holding (next_end hh i3 x3 rfl rfl fun h4 s4 => ?_))
  simp only [Option.isSome_none, Bool.false_eq_true, if_false]
  refine wpAny_pure (hQ h4 fun b o hb e => s4 b o hb (s3.extBut b o hb (s2.extBut b o hb (s1.extBut b o hb (Heap.get?_push_of_some _ e)))))
end
end Mine
end
section
open PySem PySem.W PySem.Calls PyProof.Rows
set_option maxRecDepth 100000
namespace Mine
section
variable {prog : Program} {w : World} {A : Around} {E : Value → Shared → Prop} {s : Shared} {x dx y dy : Addr}
theorem lt_match {a1 a2 : Int} {t1 t2 : Tok} {b1 c1 b2 c2 : Value} {Q : Bool → Shared → Prop} (hu : A.units < cLine) (X : (K w.params).In s.heap) (hx : s.heap.get? x = some (mObj dx (.int a1 t1) b1 c1)) (hy : s.heap.get? y = some (mObj dy (.int a2 t2) b2 c2)) (hne : a1 ≠ a2)
    (h : Q (decide (a1 < a2)) s) : wpAny (model prog w) A (keyLt' oneType' (.ref x) (.ref y)) Q E s := by
  rw [keyLt'_oneType, oneLt'_eq]
  simp only [if_true]
  refine wpAny_bind (wpAny_cRoomFor hu ?_)
  unfold callSpecialIfBound?
  refine wpAny_bind (wpAny_holding (wpAny_bind ((ifBound_look (special_match X hx (find_lt _)) (PySem.F.slot_tuple_lt.bind _)).here ?_)))
  dsimp only
  refine wpAny_bind (wpAny_call (codeAny_call_builtin PySem.F.slot_tuple_lt.plain PySem.F.entry_tuple_lt (@check_slot (model prog w) _ _ s "tuple.__lt__" "tuple" "__lt__" (.ref x) [.ref y] [] _ (by decide +kernel) (by decide +kernel) (inst_match X hx) (PySem.F.args_tuple_lt_2 _ _) ?_)))
  have i2 := inst_match (M := model prog w) X hy
  unfold Builtin.«tuple.__lt__»
  obtain ⟨hh, g, d, t, os⟩ := s
  dsimp only at hx hy X h i2
  repeat (first | with_reducible refine wpAny_eqBool_int ?_ | lk)
  rw [if_pos (by simp [hne])]
  refine wpAny_bind (wpAny_rule (wpAny_bind ?_))
  show wpAny _ _ (compareOp .Lt (.int a1 t1) (.int a2 t2)) _ _ _
  refine lt_int ?_
  refine wpAny_bind (wpAny_pure (wpAny_pure (wpAny_pure (wpAny_pure ?_))))
  refine wpAny_pure ?_
  exact wpAny_truthy_bool h
end
end Mine
end
section
open PySem PySem.W PySem.Calls PyProof.Rows
set_option maxRecDepth 100000
namespace Mine
section
variable {w : World} {A : Around} {E : Value → Shared → Prop} {s : Shared} {D x y z dx dy dz L : Addr} {h₀ : Heap} {m : Str → Option Value} {post : List (Addr × Obj)} {g : Obj → List (Addr × Obj)}
theorem upd_head {o : Obj} {post : List (Addr × Obj)} (h : ∀ p ∈ post, p.1 ≠ D) : UpdF D o ((D, o) :: post) (fun o' => (D, o') :: post) := UpdF.head h
theorem upd_again {D : Addr} {o : Obj} {news : List (Addr × Obj)} {g : Obj → List (Addr × Obj)} (U : UpdF D o news g) (o' : Obj) : UpdF D o' (g o') g := by
  induction U with
  | head h => exact .head h
  | tail h _ ih => exact .tail h ih
theorem upd_mem {D : Addr} {o : Obj} {news : List (Addr × Obj)} {g : Obj → List (Addr × Obj)} (U : UpdF D o news g) {q : Addr × Obj} (hq : q ∈ news) (hne : q.2.cls ≠ o.cls) (o' : Obj) : q ∈ g o' := by
  obtain ⟨pre, post, rfl, hg, _, _⟩ := U.split
  rw [hg]
  rcases List.mem_append.mp hq with h | h
  · exact List.mem_append_left _ h
  · rcases List.mem_cons.mp h with rfl | h
    · exact absurd rfl hne
    · exact List.mem_append_right _ (.tail _ h)
theorem sort2 {a1 a2 : Int} {t1 t2 : Tok} {b1 c1 b2 c2 : Value} {n : Nat} {Q : Value → Shared → Prop} (hu : A.in1.units < cLine) (X : (K w.params).In h₀) (F : Fr h₀ L s.heap m) (N : News h₀ L s.heap post) {its : Array Value} (U : UpdF D (listOf its n) post g) (he : its.toList = [.ref x, .ref y])
    (hx : (x, mObj dx (.int a1 t1) b1 c1) ∈ post) (hy : (y, mObj dy (.int a2 t2) b2 c2) ∈ post) (hne : a1 ≠ a2)
    (h : ∀ h' c, Fr h₀ L h' m → News h₀ L h' (g (listOf (if a1 < a2 then #[.ref x, .ref y] else #[.ref y, .ref x]) c)) → Q .none { s with heap := h' }) :
    wpAny (model pw w) A (call (.builtin "list.sort") [.ref D]) Q E s := by
  refine kas_lsort (T := .ref 135) (vs := [.ref x, .ref y]) F N U he (by simp) (by simp) ?_ (by decide) ?_
  · intro e1 h F' N' v hv
    simp only [List.mem_cons, List.not_mem_nil, or_false] at hv
    rcases hv with rfl | rfl
    · exact type_match (N' _ (upd_mem U hx (fun e => by cases e) _)).1
    · exact type_match (N' _ (upd_mem U hy (fun e => by cases e) _)).1
  · intro e1 h' F' N'
    kas_step
    refine lt_match hu (X.keeps F'.keep) (N' _ (upd_mem U hy (fun e => by cases e) _)).1 (N' _ (upd_mem U hx (fun e => by cases e) _)).1 (Ne.symm hne) ?_
    by_cases hlt : a1 < a2
    · rw [decide_eq_false (by omega)]
      rw [if_pos hlt] at h
      show KasT.kasWp _ _ _ _
      kas_step
      exact KasFin.intro F' N' (upd_again U _) fun h2 c F2 N2 => h h2 c F2 N2
    · rw [decide_eq_true (by omega)]
      rw [if_neg hlt] at h
      show KasT.kasWp _ _ _ _
      kas_step
      exact KasFin.intro F' N' (upd_again U _) fun h2 c F2 N2 => h h2 c F2 N2
theorem sort2_up {a1 a2 : Int} {t1 t2 : Tok} {b1 c1 b2 c2 : Value} {n : Nat} {Q : Value → Shared → Prop} (hu : A.in1.units < cLine) (X : (K w.params).In h₀) (F : Fr h₀ L s.heap m) (N : News h₀ L s.heap post) {its : Array Value} (U : UpdF D (listOf its n) post g) (he : its.toList = [.ref x, .ref y])
    (hx : (x, mObj dx (.int a1 t1) b1 c1) ∈ post) (hy : (y, mObj dy (.int a2 t2) b2 c2) ∈ post) (hlt : a1 < a2)
    (h : ∀ h' c, Fr h₀ L h' m → News h₀ L h' (g (listOf #[.ref x, .ref y] c)) → Q .none { s with heap := h' }) :
    wpAny (model pw w) A (call (.builtin "list.sort") [.ref D]) Q E s := sort2 hu X F N U he hx hy (by omega) (by rw [if_pos hlt]; exact h)
theorem sort2_dn {a1 a2 : Int} {t1 t2 : Tok} {b1 c1 b2 c2 : Value} {n : Nat} {Q : Value → Shared → Prop} (hu : A.in1.units < cLine) (X : (K w.params).In h₀) (F : Fr h₀ L s.heap m) (N : News h₀ L s.heap post) {its : Array Value} (U : UpdF D (listOf its n) post g) (he : its.toList = [.ref x, .ref y])
    (hx : (x, mObj dx (.int a1 t1) b1 c1) ∈ post) (hy : (y, mObj dy (.int a2 t2) b2 c2) ∈ post) (hlt : a2 < a1)
    (h : ∀ h' c, Fr h₀ L h' m → News h₀ L h' (g (listOf #[.ref y, .ref x] c)) → Q .none { s with heap := h' }) :
    wpAny (model pw w) A (call (.builtin "list.sort") [.ref D]) Q E s := sort2 hu X F N U he hx hy (by omega) (by rw [if_neg (by omega)]; exact h)
theorem lt_yes {a1 a2 : Int} {t1 t2 : Tok} {b1 c1 b2 c2 : Value} {Q : Bool → Shared → Prop} (hu : A.units < cLine) (X : (K w.params).In s.heap) (hx : s.heap.get? x = some (mObj dx (.int a1 t1) b1 c1)) (hy : s.heap.get? y = some (mObj dy (.int a2 t2) b2 c2)) (hne : a1 < a2)
    (h : Q true s) : wpAny (model pw w) A (keyLt' oneType' (.ref x) (.ref y)) Q E s := lt_match hu X hx hy (by omega) (by rw [decide_eq_true hne]; exact h)
theorem lt_no {a1 a2 : Int} {t1 t2 : Tok} {b1 c1 b2 c2 : Value} {Q : Bool → Shared → Prop} (hu : A.units < cLine) (X : (K w.params).In s.heap) (hx : s.heap.get? x = some (mObj dx (.int a1 t1) b1 c1)) (hy : s.heap.get? y = some (mObj dy (.int a2 t2) b2 c2)) (hne : a2 < a1)
    (h : Q false s) : wpAny (model pw w) A (keyLt' oneType' (.ref x) (.ref y)) Q E s := lt_match hu X hx hy (by omega) (by rw [decide_eq_false (by omega)]; exact h)
set_option maxHeartbeats 1000000 in
theorem sort3 {a1 a2 a3 : Int} {t1 t2 t3 : Tok} {b1 c1 b2 c2 b3 c3 : Value} {n : Nat} {Q : Value → Shared → Prop} (hu : A.in1.units < cLine) (X : (K w.params).In h₀) (F : Fr h₀ L s.heap m) (N : News h₀ L s.heap post) {its : Array Value} (U : UpdF D (listOf its n) post g) (he : its.toList = [.ref x, .ref y, .ref z])
    (hx : (x, mObj dx (.int a1 t1) b1 c1) ∈ post) (hy : (y, mObj dy (.int a2 t2) b2 c2) ∈ post) (hz : (z, mObj dz (.int a3 t3) b3 c3) ∈ post) (h12 : a1 < a2) (h31 : a3 < a1)
    (h : ∀ h' c, Fr h₀ L h' m → News h₀ L h' (g (listOf #[.ref z, .ref x, .ref y] c)) → Q .none { s with heap := h' }) :
    wpAny (model pw w) A (call (.builtin "list.sort") [.ref D]) Q E s := by
  refine kas_lsort (T := .ref 135) (vs := [.ref x, .ref y, .ref z]) F N U he (by simp) (by simp) ?_ (by decide) ?_
  · intro e1 h F' N' v hv
    simp only [List.mem_cons, List.not_mem_nil, or_false] at hv
    rcases hv with rfl | rfl | rfl
    · exact type_match (N' _ (upd_mem U hx (fun e => by cases e) _)).1
    · exact type_match (N' _ (upd_mem U hy (fun e => by cases e) _)).1
    · exact type_match (N' _ (upd_mem U hz (fun e => by cases e) _)).1
  · intro e1 h' F' N'
    have Y := X.keeps F'.keep
    have x1 : h'.get? x = some (mObj dx (.int a1 t1) b1 c1) := (N' _ (upd_mem U hx (fun e => by cases e) _)).1
    have y1 : h'.get? y = some (mObj dy (.int a2 t2) b2 c2) := (N' _ (upd_mem U hy (fun e => by cases e) _)).1
    have z1 : h'.get? z = some (mObj dz (.int a3 t3) b3 c3) := (N' _ (upd_mem U hz (fun e => by cases e) _)).1
    repeat (first
      | ((with_reducible show KasNext _ _ _ _ _); show KasT.kasWp _ _ _ _)
      | kas_step
      | with_reducible exact KasFin.intro F' N' (upd_again U _) fun h2 c F2 N2 => h h2 c F2 N2
      | with_reducible refine lt_no hu Y y1 x1 (by omega) ?_
      | with_reducible refine lt_yes hu Y x1 y1 (by omega) ?_
      | with_reducible refine lt_yes hu Y z1 x1 (by omega) ?_
      | with_reducible refine lt_yes hu Y z1 y1 (by omega) ?_
      | with_reducible refine lt_no hu Y x1 z1 (by omega) ?_
      | with_reducible refine lt_no hu Y y1 z1 (by omega) ?_)
    exact KasFin.intro F' N' (upd_again U _) fun h2 c F2 N2 => h h2 c F2 N2
end
end Mine
end
section
open PySem PySem.W PySem.Calls PyProof.Rows
set_option maxRecDepth 100000
namespace Mine
noncomputable abbrev envG (L : Addr) : Env := envOf (Str.ofString "SequenceMatcher.get_matching_blocks") S203 L 203 (.ref 202)
theorem len_base {prog : Program} {w : World} {A : Around} {E : Value → Shared → Prop} {s : Shared} {g : Heap} {L l : Addr} {m : Str → Option Value} {vs : List Value} {ns : List Int} {Q : Value → Shared → Prop}
    (F : Fr g L s.heap m) (hl : g.IsList l vs.toArray) (hi : IntsAre vs ns) (hn : (ns.length : Int) < 100000) (h : ∀ t, Q (.int ns.length t) { s with toks := s.toks + 1 + 1 }) : wpAny (model prog w) A (call (.builtin "len") [.ref l]) Q E s := by
  have e : (vs.toArray.size : Int) = ns.length := by simp [hi.length]
  refine len_list (hl.at fun o e => F.keep _ _ e) (by rw [e]; omega) ?_
  rw [e]; exact h _
theorem unpackM {w : World} {A : Around} {E : Value → Shared → Prop} {s : Shared} {g : Heap} {L x dx : Addr} {m : Str → Option Value} {news : List (Addr × Obj)} {env : Env} {elts : List PySem.Expr} {k : Nat} {pos : Pos} {a b c : Value} {Q : Unit → Shared → Prop}
    (F : Fr g L s.heap m) (X : (K w.params).In g) (N : News g L s.heap news) (hx : (x, mObj dx a b c) ∈ news) (hh : A.handled = none) (hn : (assignEach elts env).length = 3) (hstar : (assignEach elts env).findIdx? (·.1) = none)
    (h : ∀ h', Fr g L h' m → News g L h' news → wpAny (model pw w) A (assignInOrder ((assignEach elts env).map (·.2)) [a, b, c]) Q E { s with heap := h' }) :
    wpAny (model pw w) A (assign (.Tuple elts k pos) env (.ref x)) Q E s := by
  rw [arm_assign_Tuple]
  refine wpAny_bind (wpAny_standAt ?_)
  unfold unpack
  rw [hn, hstar]
  exact wpAny_bind (wpAny_holding (unpack_match hh (X.keeps F.keep) (N _ hx).1 fun h' he => h h' (F.extBut he (Nat.le_refl _)) (N.extBut he (Nat.le_refl _))))
theorem Ready.keeps {w : World} {h h' : Heap} {M dM : Addr} {t : Nat → Tok} {la lb : Addr} {vmb vop : Value} {D S1 : Addr} {vbp : Value} {as bs : List Int} (R : Ready w h M dM t la lb vmb vop D S1 vbp as bs) (hk : ∀ b o, h.get? b = some o → h'.get? b = some o) : Ready w h' M dM t la lb vmb vop D S1 vbp as bs := by
  obtain ⟨rne, roff, ⟨va, hla, hva⟩, ⟨vb, hlb, hvb⟩, ral, rbl, ⟨n, hS⟩, rdn, ⟨f, hD, hB⟩⟩ := R
  refine ⟨rne, roff, ⟨va, isList_to hla (hk _), hva⟩, ⟨vb, isList_to hlb (hk _), hvb⟩, ral, rbl, ⟨n, Heap.SetOf.to hS (hk _)⟩, rdn, ⟨f, Heap.MapOf.to hD (hk _), fun v => ?_⟩⟩
  rcases hB v with h | ⟨lv, vj, h1, n1, n2, h2, h3⟩
  · exact .inl h
  · exact .inr ⟨lv, vj, h1, n1, n2, isList_to h2 (hk _), h3⟩
/-- what find_longest_match answers on a[alo:ahi], b[blo:bhi] -/
structure FM (as bs : List Int) (alo ahi blo bhi bi bj bk : Int) : Prop where
  a0 : 0 ≤ alo
  a1 : alo ≤ ahi
  a2 : ahi ≤ as.length
  b0 : 0 ≤ blo
  b1 : blo ≤ bhi
  b2 : bhi ≤ bs.length
  rows_ : ∃ kvf, rows (fun v => idxs v bs 0) as alo blo bhi ⟨alo, blo, 0, []⟩ (ahi - alo).toNat = ⟨bi, bj, bk, kvf⟩
  c0 : 0 ≤ bk
  c1 : alo ≤ bi
  c2 : bi + bk ≤ ahi
  c3 : blo ≤ bj
  c4 : bj + bk ≤ bhi
  p1 : alo < bi → blo < bj → as.getD (bi - 1).toNat 0 ≠ bs.getD (bj - 1).toNat 0
  p2 : bi + bk < ahi → bj + bk < bhi → as.getD (bi + bk).toNat 0 ≠ bs.getD (bj + bk).toNat 0
theorem flm_fm {w : World} {e1 : Env} {E : Value → Shared → Prop} {s : Shared} {base h₀ : Heap} {outer : List Env} {L a : Addr} {m mg mb : Str → Option Value} {cn : Str} {cs : Scope} {ccd : Value} {mean : ExcName → Option Value} {news : List (Addr × Obj)}
    {M dM la lb D S1 : Addr} {t : Nat → Tok} {vmb vop vbp : Value} {as bs : List Int} {alo ahi blo bhi bi bj bk : Int} {t1 t2 t3 t4 : Tok} {Q : Value → Shared → Prop}
    (X : (K w.params).In h₀) (T : Top qv (looseW qv loose) mean mg mb h₀) (B : Below (callerA.deeper e1) base outer h₀)
    (F : Fr h₀ L s.heap m) (N : News h₀ L s.heap news) (R : Ready w h₀ M dM t la lb vmb vop D S1 vbp as bs) (hM : (M, instObj 242 dM) ∈ news) (hdM : (dM, flmD w.params t la lb vmb vop D S1 vbp) ∈ news)
    (hcs : cs.kind = .function) (fm : FM as bs alo ahi blo bhi bi bj bk)
    (k : ∀ x dx u4 u5 u6 h' tk, Fr h₀ L h' m → News h₀ L h' ((x, mObj dx (.int bi u4) (.int bj u5) (.int bk u6)) :: news) → (∀ p ∈ news, p.1 < x) → Q (.ref x) { s with heap := h', toks := tk }) :
    wpAny (model pw w) ((callerA.deeper e1).deeper (envOf cn cs L a ccd)) (call (.ref 196) [.ref M, .int alo t1, .int ahi t2, .int blo t3, .int bhi t4]) Q E s := by
  obtain ⟨a0, a1, a2, b0, b1, b2, ⟨kvf, hr⟩, c0, c1, c2, c3, c4, p1, p2⟩ := fm
  exact flm_call X T B F N hM hdM hcs (R.keeps F.keep) a0 a1 a2 b0 b1 b2 hr c0 c1 c2 c3 c4 p1 p2 fun x dx u4 u5 u6 h' tk _ F' N' hlt => k x dx u4 u5 u6 h' tk F' N' hlt
end Mine
end
section
open PySem PySem.W PySem.Calls PyProof.Rows
namespace Mine
/-- cells before (n, m), row by row -/
noncomputable def Before (n m n' j' : Nat) : Prop := n' < n ∨ (n' = n ∧ j' < m)
/-- the first greatest cell among those before (n, m) -/
structure Upto (val : Nat → Nat → Nat) (alo blo : Nat) (n m : Nat) (st : St) : Prop where
  zero : st.bk = 0 → st.bi = alo ∧ st.bj = blo
  nonneg : 0 ≤ st.bk
  here : 0 < st.bk → ∃ n' j', Before n m n' j' ∧ (val n' j' : Int) = st.bk ∧ st.bi + st.bk = alo + n' + 1 ∧ st.bj + st.bk = j' + 1
  most : ∀ n' j', Before n m n' j' → (val n' j' : Int) ≤ st.bk
  first : ∀ n' j', Before n m n' j' → (val n' j' : Int) = st.bk → 0 < st.bk → st.bi + st.bk < alo + n' + 1 ∨ (st.bi + st.bk = alo + n' + 1 ∧ st.bj + st.bk ≤ j' + 1)
theorem Before.mono {n m n' j' : Nat} (h : Before n m n' j') : Before n (m + 1) n' j' := by unfold Before at *; omega
theorem Before.cases {n m n' j' : Nat} (h : Before n (m + 1) n' j') : Before n m n' j' ∨ (n' = n ∧ j' = m) := by unfold Before at *; omega
/-- a cell that is no greater -/
theorem Upto.skip {val : Nat → Nat → Nat} {alo blo n m : Nat} {st : St} (u : Upto val alo blo n m st) (h : (val n m : Int) ≤ st.bk) : Upto val alo blo n (m + 1) st := by
  obtain ⟨u1, u2, u3, u4, u5⟩ := u
  refine ⟨u1, u2, fun hb => ?_, fun n' j' hc => ?_, fun n' j' hc he hb => ?_⟩
  · obtain ⟨n', j', c, r⟩ := u3 hb
    exact ⟨n', j', c.mono, r⟩
  · rcases hc.cases with hc | ⟨rfl, rfl⟩
    · exact u4 _ _ hc
    · exact h
  · rcases hc.cases with hc | ⟨rfl, rfl⟩
    · exact u5 _ _ hc he hb
    · obtain ⟨n', j', c, r1, r2, r3⟩ := u3 hb
      unfold Before at c
      omega
/-- a greater one -/
theorem Upto.take {val : Nat → Nat → Nat} {alo blo n m : Nat} {st : St} (u : Upto val alo blo n m st) {k : Int} (hk : (val n m : Int) = k) (h : st.bk < k) (kv : List (Int × Int)) : Upto val alo blo n (m + 1) ⟨alo + n - k + 1, m - k + 1, k, kv⟩ := by
  obtain ⟨u1, u2, u3, u4, u5⟩ := u
  refine ⟨fun e => ?_, ?_, fun hb => ?_, fun n' j' hc => ?_, fun n' j' hc he hb => ?_⟩
  · simp only at e; omega
  · simp only; omega
  · exact ⟨n, m, .inr ⟨rfl, by omega⟩, hk, by simp only; omega, by simp only; omega⟩
  · simp only
    rcases hc.cases with hc | ⟨rfl, rfl⟩
    · have := u4 _ _ hc; omega
    · omega
  · simp only at he hb ⊢
    rcases hc.cases with hc | ⟨rfl, rfl⟩
    · have := u4 _ _ hc; omega
    · omega
theorem Upto.kv {val : Nat → Nat → Nat} {alo blo n m : Nat} {a b c : Int} {kv kv' : List (Int × Int)} (u : Upto val alo blo n m ⟨a, b, c, kv⟩) : Upto val alo blo n m ⟨a, b, c, kv'⟩ := ⟨u.1, u.2, u.3, u.4, u.5⟩
theorem Upto.next {val : Nat → Nat → Nat} {alo blo n m : Nat} {a b c : Int} {kv kv' : List (Int × Int)} (u : Upto val alo blo n m ⟨a, b, c, kv⟩) (h : ∀ j, m ≤ j → val n j = 0) : Upto val alo blo (n + 1) 0 ⟨a, b, c, kv'⟩ := by
  have key : ∀ n' j', Before (n + 1) 0 n' j' → Before n m n' j' ∨ val n' j' = 0 := fun n' j' hc => by
    by_cases e : n' = n ∧ m ≤ j'
    · rw [e.1]; exact .inr (h _ e.2)
    · left; unfold Before at *; omega
  obtain ⟨u1, u2, u3, u4, u5⟩ := u
  simp only at u1 u2 u3 u4 u5
  refine ⟨u1, u2, fun hb => ?_, fun n' j' hc => ?_, fun n' j' hc he hb => ?_⟩
  · obtain ⟨n', j', c, r⟩ := u3 hb
    exact ⟨n', j', by unfold Before at *; omega, r⟩
  · rcases key n' j' hc with k | k
    · exact u4 _ _ k
    · simp only; omega
  · rcases key n' j' hc with k | k
    · exact u5 _ _ k he hb
    · simp only at he hb; omega
theorem lookI_stored (kv : List (Int × Int)) (j k j' : Int) : lookI (storedI kv j k) j' = if j' = j then k else lookI kv j' := by
  unfold lookI storedI
  split
  · rename_i h
    induction kv with
    | nil => simp at h
    | cons p r ih =>
      obtain ⟨a, c⟩ := p
      simp only [List.map_cons, List.find?_cons, List.any_cons] at h ⊢
      by_cases e : a = j
      · subst e
        simp only [if_true]
        by_cases e2 : j' = a
        · subst e2; simp
        · have : ¬ a = j' := fun q => e2 q.symm
          simp only [this, decide_false, if_neg e2]
          by_cases hr : (r.any fun p => decide (p.1 = a)) = true
          · have := ih hr
            rw [if_neg e2] at this
            exact this
          · have e3 : (r.map fun p => if p.1 = a then (p.1, k) else p) = r := by
              refine (List.map_congr_left fun p hp => ?_).trans (List.map_id r)
              have : ¬ p.1 = a := fun q => hr (List.any_eq_true.mpr ⟨p, hp, by simpa using q⟩)
              simp [this]
            rw [e3]
      · simp only [e, decide_false, Bool.false_or, if_false] at h ⊢
        by_cases e2 : a = j'
        · subst e2
          simp [e]
        · simp only [e2, decide_false]
          exact ih h
  · rename_i h
    induction kv with
    | nil =>
      simp only [List.nil_append, List.find?_cons, List.find?_nil]
      by_cases e : j' = j
      · subst e; simp
      · have : ¬ j = j' := fun q => e q.symm
        simp [e, this]
    | cons p r ih =>
      obtain ⟨a, c⟩ := p
      simp only [List.any_cons, Bool.or_eq_true, decide_eq_true_eq, not_or, List.cons_append, List.find?_cons] at h ⊢
      by_cases e2 : a = j'
      · subst e2; simp [h.1]
      · simp only [e2, decide_false]
        exact ih h.2
open Classical in
/-- the inner loop from column m on -/
theorem inner_spec {as bs : List Int} {alo blo bhi n : Nat} {prev : Int → Int} (ha : alo + n < as.length)
    (hp : ∀ j : Nat, (row as bs alo blo bhi n j : Int) = if cell as bs blo bhi (alo + n) j then prev ((j : Int) - 1) + 1 else 0) :
    ∀ (r pre : List Int) (st : St), bs = pre ++ r → Upto (row as bs alo blo bhi) alo blo n pre.length st → (∀ j : Int, lookI st.kv j = if 0 ≤ j ∧ j < pre.length then (row as bs alo blo bhi n j.toNat : Int) else 0) →
      Upto (row as bs alo blo bhi) alo blo (n + 1) 0 (inner prev blo bhi (alo + n : Int) (idxs (as.getD (alo + n) 0) r pre.length) st) ∧
      ∀ j : Int, lookI (inner prev blo bhi (alo + n : Int) (idxs (as.getD (alo + n) 0) r pre.length) st).kv j = if 0 ≤ j then (row as bs alo blo bhi n j.toNat : Int) else 0
  | [], pre, st, hb, u, hk => by
    have hz : ∀ j, pre.length ≤ j → row as bs alo blo bhi n j = 0 := fun j hj => by
      have := hp j
      rw [if_neg] at this
      · omega
      · rintro ⟨_, _, v, _, h⟩
        have := (List.getElem?_eq_some_iff.mp h).1
        rw [hb] at this; simp at this; omega
    simp only [idxs, inner]
    refine ⟨u.next hz, fun j => ?_⟩
    rw [hk j]
    by_cases q : 0 ≤ j
    · by_cases q2 : j < pre.length
      · rw [if_pos ⟨q, q2⟩, if_pos q]
      · rw [if_neg (by omega), if_pos q, hz _ (by omega)]; rfl
    · rw [if_neg (by omega), if_neg q]
  | x :: r, pre, st, hb, u, hk => by
    have hm : bs[pre.length]? = some x := by rw [hb]; simp
    have ham : as[alo + n]? = some (as.getD (alo + n) 0) := by simp [List.getD, ha]
    have hb' : bs = (pre ++ [x]) ++ r := by rw [hb]; simp
    have hlen : (pre ++ [x]).length = pre.length + 1 := by simp
    have go := inner_spec (prev := prev) ha hp r (pre ++ [x])
    rw [hlen] at go
    unfold idxs
    by_cases e : x = as.getD (alo + n) 0
    · rw [if_pos e]
      unfold inner
      by_cases c1 : (pre.length : Int) < blo
      · rw [if_pos c1]
        have z : row as bs alo blo bhi n pre.length = 0 := by
          have := hp pre.length
          rw [if_neg (by rintro ⟨h, _⟩; omega)] at this; omega
        refine go st hb' (u.skip (by rw [z]; exact u.nonneg)) fun j => ?_
        rw [hk j]
        by_cases q : 0 ≤ j ∧ j < pre.length
        · rw [if_pos q, if_pos (by omega)]
        · rw [if_neg q]
          by_cases q2 : j = pre.length
          · subst q2; rw [if_pos (by omega)]; simp [z]
          · rw [if_neg (by omega)]
      · rw [if_neg c1]
        by_cases c2 : (pre.length : Int) ≥ bhi
        · rw [if_pos c2]
          have hz : ∀ j, pre.length ≤ j → row as bs alo blo bhi n j = 0 := fun j hj => by
            have := hp j
            rw [if_neg (by rintro ⟨_, h, _⟩; omega)] at this; omega
          refine ⟨u.next hz, fun j => ?_⟩
          rw [hk j]
          by_cases q : 0 ≤ j
          · by_cases q2 : j < pre.length
            · rw [if_pos ⟨q, q2⟩, if_pos q]
            · rw [if_neg (by omega), if_pos q, hz _ (by omega)]; rfl
          · rw [if_neg (by omega), if_neg q]
        · rw [if_neg c2]
          have hv := hp pre.length
          rw [if_pos ⟨by omega, by omega, _, ham, by rw [hm, e]⟩] at hv
          have kvs : ∀ j : Int, lookI (storedI st.kv pre.length (prev ((pre.length : Int) - 1) + 1)) j = if 0 ≤ j ∧ j < ((pre.length + 1 : Nat) : Int) then (row as bs alo blo bhi n j.toNat : Int) else 0 := fun j => by
            rw [lookI_stored]
            by_cases q : j = pre.length
            · subst q; rw [if_pos rfl, if_pos (by omega)]; simp [hv]
            · rw [if_neg q, hk j]
              by_cases q2 : 0 ≤ j ∧ j < pre.length
              · rw [if_pos q2, if_pos (by omega)]
              · rw [if_neg q2, if_neg (by omega)]
          obtain ⟨bi, bj, bk, kv⟩ := st
          unfold St.turn
          simp only at kvs ⊢
          by_cases c3 : prev ((pre.length : Int) - 1) + 1 > bk
          · rw [if_pos c3]
            exact go _ hb' (u.take hv c3 _) kvs
          · rw [if_neg c3]
            exact go _ hb' (u.skip (by simp only; omega)).kv kvs
    · rw [if_neg e]
      have z : row as bs alo blo bhi n pre.length = 0 := by
        have := hp pre.length
        rw [if_neg] at this
        · omega
        · rintro ⟨_, _, v, h1, h2⟩
          rw [ham] at h1; rw [hm] at h2
          exact e (by have a := Option.some.inj h1; have b := Option.some.inj h2; rw [a, b])
      refine go st hb' (u.skip (by rw [z]; exact u.nonneg)) fun j => ?_
      rw [hk j]
      by_cases q : 0 ≤ j ∧ j < pre.length
      · rw [if_pos q, if_pos (by omega)]
      · rw [if_neg q]
        by_cases q2 : j = pre.length
        · subst q2; rw [if_pos (by omega)]; simp [z]
        · rw [if_neg (by omega)]
open Classical in
/-- the rows reckon the first greatest cell -/
theorem rows_spec {as bs : List Int} {alo blo bhi : Nat} : ∀ n : Nat, alo + n ≤ as.length →
    Upto (row as bs alo blo bhi) alo blo n 0 (rows (fun v => idxs v bs 0) as alo blo bhi ⟨alo, blo, 0, []⟩ n) ∧
    ∀ j : Int, lookI (rows (fun v => idxs v bs 0) as alo blo bhi ⟨alo, blo, 0, []⟩ n).kv j = if 0 < n ∧ 0 ≤ j then (row as bs alo blo bhi (n - 1) j.toNat : Int) else 0
  | 0, _ => by
    refine ⟨⟨fun _ => ⟨rfl, rfl⟩, by simp [rows], fun h => ?_, fun n' j' h => ?_, fun n' j' h => ?_⟩, fun j => ?_⟩
    · simp [rows] at h
    · unfold Before at h; omega
    · unfold Before at h; omega
    · simp [rows, lookI]
  | n + 1, h => by
    obtain ⟨u, hk⟩ := rows_spec (as := as) (bs := bs) (alo := alo) (blo := blo) (bhi := bhi) n (by omega)
    unfold rows
    have e1 : ((alo : Int) + n).toNat = alo + n := by omega
    rw [e1]
    have hp : ∀ j : Nat, (row as bs alo blo bhi n j : Int) = if cell as bs blo bhi (alo + n) j then lookI (rows (fun v => idxs v bs 0) as alo blo bhi ⟨alo, blo, 0, []⟩ n).kv ((j : Int) - 1) + 1 else 0 := fun j => by
      rw [hk]
      cases n with
      | zero => simp only [row, Nat.add_zero]; split <;> simp
      | succ n =>
        simp only [row]
        by_cases c : cell as bs blo bhi (alo + (n + 1)) j
        · rw [if_pos c, if_pos c]
          cases j with
          | zero => simp
          | succ j =>
            rw [if_pos (by omega)]
            have : ((j + 1 : Nat) - 1 : Int).toNat = j := by omega
            rw [this]; simp
        · rw [if_neg c, if_neg c]; rfl
    have r := inner_spec (prev := lookI (rows (fun v => idxs v bs 0) as alo blo bhi ⟨alo, blo, 0, []⟩ n).kv) (by omega) hp bs [] ⟨(rows (fun v => idxs v bs 0) as alo blo bhi ⟨alo, blo, 0, []⟩ n).bi, (rows (fun v => idxs v bs 0) as alo blo bhi ⟨alo, blo, 0, []⟩ n).bj, (rows (fun v => idxs v bs 0) as alo blo bhi ⟨alo, blo, 0, []⟩ n).bk, []⟩ rfl u.kv (fun j => by simp [lookI]; omega)
    refine ⟨r.1, fun j => ?_⟩
    refine (r.2 j).trans ?_
    simp
end Mine
end
section
open PySem PySem.W PySem.Calls PyProof.Rows
namespace Mine
/-- k equal items from a[i] and b[j] on -/
noncomputable def Stretch (a b : List Int) (i j k : Nat) : Prop := ∀ t, t < k → ∃ v, a[i + t]? = some v ∧ b[j + t]? = some v
theorem Stretch.le {a b : List Int} {i j k : Nat} (h : Stretch a b i j k) (hk : 0 < k) : i + k ≤ a.length ∧ j + k ≤ b.length := by
  obtain ⟨v, h1, h2⟩ := h (k - 1) (by omega)
  have h1 := (List.getElem?_eq_some_iff.mp h1).1
  have h2 := (List.getElem?_eq_some_iff.mp h2).1
  omega
theorem row_ge' {a b : List Int} {alo blo bhi : Nat} : ∀ (n j k : Nat), k ≤ n + 1 → blo + k ≤ j + 1 → j < bhi → (∀ t, t < k → ∃ v, a[alo + n - t]? = some v ∧ b[j - t]? = some v) → k ≤ row a b alo blo bhi n j
  | _, _, 0, _, _, _, _ => Nat.zero_le _
  | 0, j, k + 1, h1, h2, h3, h4 => by
    obtain ⟨v, e1, e2⟩ := h4 0 (Nat.succ_pos k)
    have c : cell a b blo bhi alo j := ⟨by clear h1 h3 h4 e1 e2; omega, h3, v, e1, e2⟩
    unfold row
    rw [if_pos c]
    exact h1
  | n + 1, j, 1, h1, h2, h3, h4 => by
    obtain ⟨v, e1, e2⟩ := h4 0 (Nat.succ_pos 0)
    have c : cell a b blo bhi (alo + (n + 1)) j := ⟨by clear h1 h3 h4 e1 e2; omega, h3, v, e1, e2⟩
    unfold row
    rw [if_pos c]
    exact Nat.le_add_left 1 _
  | n + 1, 0, k + 2, h1, h2, h3, h4 => by clear h1 h3 h4; omega
  | n + 1, j + 1, k + 2, h1, h2, h3, h4 => by
    obtain ⟨v, e1, e2⟩ := h4 0 (Nat.succ_pos _)
    have c : cell a b blo bhi (alo + (n + 1)) (j + 1) := ⟨by clear h1 h3 h4 e1 e2; omega, h3, v, e1, e2⟩
    unfold row
    rw [if_pos c]
    refine Nat.succ_le_succ (row_ge' n j (k + 1) (Nat.le_of_succ_le_succ h1) (Nat.le_of_succ_le_succ h2) (Nat.lt_of_succ_lt h3) fun t ht => ?_)
    have := h4 (t + 1) (Nat.succ_lt_succ ht)
    rwa [show alo + (n + 1) - (t + 1) = alo + n - t from Nat.succ_sub_succ _ _, Nat.succ_sub_succ] at this
theorem ar_ge {alo i k r : Nat} (hk : 0 < k) (h : i + k - 1 - alo = r) (h1 : alo ≤ i) : alo + r + 1 = i + k := by omega
theorem ar_ge1 {j k u : Nat} (hk : 0 < k) (h : j + k - 1 = u) : u + 1 = j + k := by omega
theorem ar_ge2 {a i k t : Nat} (h : a + 1 = i + k) (ht : t < k) : a - t = i + (k - 1 - t) := by omega
theorem row_ge {a b : List Int} {alo blo bhi : Nat} (k i j : Nat) (hk : 0 < k) (h1 : alo ≤ i) (h2 : blo ≤ j) (h3 : j + k ≤ bhi) (hs : Stretch a b i j k) : k ≤ row a b alo blo bhi (i + k - 1 - alo) (j + k - 1) := by
  obtain ⟨r, hr⟩ : ∃ r, i + k - 1 - alo = r := ⟨_, rfl⟩
  obtain ⟨u, hu⟩ : ∃ u, j + k - 1 = u := ⟨_, rfl⟩
  rw [hr, hu]
  replace hr := ar_ge hk hr h1
  replace hu := ar_ge1 hk hu
  refine row_ge' _ _ k (by clear h2 h3 hs hu; omega) (by rw [hu]; exact Nat.add_le_add_right h2 k) (by rw [← hu] at h3; exact h3) fun t ht => ?_
  have := hs (k - 1 - t) (by clear h1 h2 h3 hs hr hu; omega)
  rwa [ar_ge2 hr ht, ar_ge2 hu ht]
/-- what the plain part shows of a pair of windows: the longest stretch, the first of its length -/
structure Longest (a b : List Int) (alo ahi blo bhi I J N : Nat) : Prop where
  a1 : alo ≤ ahi
  a2 : ahi ≤ a.length
  b1 : blo ≤ bhi
  b2 : bhi ≤ b.length
  c1 : alo ≤ I
  c2 : I + N ≤ ahi
  c3 : blo ≤ J
  c4 : J + N ≤ bhi
  zero : N = 0 → I = alo ∧ J = blo
  is : Stretch a b I J N
  most : ∀ i j k, alo ≤ i → i + k ≤ ahi → blo ≤ j → j + k ≤ bhi → Stretch a b i j k → 0 < k → k ≤ N ∧ (k = N → I < i ∨ (I = i ∧ J ≤ j))
theorem ar_key {alo I J N i j k n' j' r u : Nat} {bi bj bk : Int} (w2 : i + k = alo + n' + 1) (w3 : j + k = j' + 1) (q3 : bi + bk = alo + n' + 1) (q4 : bj + bk = j' + 1) (hk : k = N) (hb : (N : Int) = bk) (m2 : I < i ∨ (I = i ∧ J ≤ j)) (hr : alo + r + 1 = I + N) (hu : u + 1 = J + N)
    (g3 : bi + bk < alo + r + 1 ∨ (bi + bk = alo + r + 1 ∧ bj + bk ≤ u + 1)) : bi = I ∧ bj = J ∧ bk = N := by
  subst hk hb
  have e1 : bi = i := by clear m2 hr hu g3 q4 w3; omega
  have e2 : bj = j := by clear m2 hr hu g3 q3 w2 e1; omega
  subst e1 e2
  clear w2 w3 q3 q4
  rcases m2 with m2 | ⟨m2, m3⟩
  · exfalso; omega
  · refine ⟨by clear hr hu g3 m3; omega, ?_, rfl⟩; omega
theorem ar_r {alo I N r : Nat} (h : I + N - 1 - alo = r) (c : alo ≤ I) (hN : 0 < N) : alo + r + 1 = I + N := by omega
theorem ar_lt {alo I N r d : Nat} (h : alo + r + 1 = I + N) (c : I + N ≤ alo + d) : r < d := by omega
theorem ar_up {k N r : Nat} {bk : Int} (w1 : k = r) (q2 : (r : Int) = bk) (h1 : k ≤ N) (h2 : (N : Int) ≤ bk) : k = N := by omega
theorem ar_p1 {I J N i j : Nat} (hN : 0 < N) (h : N + 1 ≤ N ∧ (N + 1 = N → I < i ∨ (I = i ∧ J ≤ j))) : False := by omega
theorem cell_of {a b : List Int} {alo blo bhi d n' j' : Nat} (hb : n' < d) (hp : 0 < row a b alo blo bhi n' j') : ∃ i j k, k = row a b alo blo bhi n' j' ∧ i + k = alo + n' + 1 ∧ j + k = j' + 1 ∧ alo ≤ i ∧ i + k ≤ alo + d ∧ blo ≤ j ∧ j + k ≤ bhi ∧ Stretch a b i j k := by
  obtain ⟨r1, r2, r3⟩ := row_spec (a := a) (b := b) (alo := alo) (blo := blo) (bhi := bhi) n' j' _ rfl
  have r2 := r2 (Nat.ne_of_gt hp)
  generalize row a b alo blo bhi n' j' = k at *
  obtain ⟨i, hi⟩ : ∃ i, i + k = alo + n' + 1 := ⟨alo + n' + 1 - k, by clear r2 r3 hp hb; omega⟩
  obtain ⟨j, hj⟩ : ∃ j, j + k = j' + 1 := ⟨j' + 1 - k, Nat.sub_add_cancel r2.1⟩
  refine ⟨i, j, k, rfl, hi, hj, by clear r2 r3 hp hj; omega, by clear r2 r3 hp hj r1; omega, by clear r3 hp hi hb r1; omega, by clear r3 hp hi hb r1; omega, fun t ht => ?_⟩
  have := r3 (k - 1 - t) (by clear r1 r2 r3 hi hj hb; omega)
  rwa [show alo + n' - (k - 1 - t) = i + t by clear r2 r3 hp hj hb this; omega, show j' - (k - 1 - t) = j + t by clear r1 r3 hp hi hb this; omega] at this
theorem before_lt {d n' j' : Nat} (h : Before d 0 n' j') : n' < d := h.elim id fun h => absurd h.2 (Nat.not_lt_zero _)
theorem fm_of {a b : List Int} {alo ahi blo bhi I J N : Nat} (h : Longest a b alo ahi blo bhi I J N) : FM a b alo ahi blo bhi I J N := by
  obtain ⟨a1, a2, b1, b2, c1, c2, c3, c4, z, hs, hm⟩ := h
  obtain ⟨d, rfl⟩ : ∃ d, ahi = alo + d := ⟨ahi - alo, by omega⟩
  obtain ⟨u, _⟩ := rows_spec (as := a) (bs := b) (alo := alo) (blo := blo) (bhi := bhi) d a2
  have e : (((alo + d : Nat) : Int) - alo).toNat = d := by omega
  generalize hr : rows (fun v => idxs v b 0) a alo blo bhi ⟨alo, blo, 0, []⟩ d = st at u
  have cellOf : ∀ n' j', Before d 0 n' j' → 0 < row a b alo blo bhi n' j' → ∃ i j k, k = row a b alo blo bhi n' j' ∧ i + k = alo + n' + 1 ∧ j + k = j' + 1 ∧ alo ≤ i ∧ i + k ≤ alo + d ∧ blo ≤ j ∧ j + k ≤ bhi ∧ Stretch a b i j k := fun n' j' hb hp => cell_of (before_lt hb) hp
  have stC : ∀ i j k, alo ≤ i → i + k ≤ alo + d → blo ≤ j → j + k ≤ bhi → Stretch a b i j k → 0 < k → (k : Int) ≤ st.bk := fun i j k h1 h2 h3 h4 h5 h6 => by
    have g := row_ge (a := a) (b := b) (alo := alo) (blo := blo) (bhi := bhi) k i j h6 h1 h3 h4 h5
    have := u.most (i + k - 1 - alo) (j + k - 1) (by unfold Before; omega)
    omega
  have key : st.bi = I ∧ st.bj = J ∧ st.bk = N := by
    rcases Nat.eq_zero_or_pos N with hN | hN
    · have hz : st.bk = 0 := by
        refine Classical.byContradiction fun hne => ?_
        have hpos : 0 < st.bk := by have := u.nonneg; omega
        obtain ⟨n', j', q1, q2, q3, q4⟩ := u.here hpos
        obtain ⟨i, j, k, w1, w2, w3, w4, w5, w6, w7, w8⟩ := cellOf n' j' q1 (by omega)
        have := (hm i j k w4 w5 w6 w7 w8 (by omega)).1
        omega
      have := u.zero hz
      have := z hN
      omega
    · have g1 := stC I J N c1 c2 c3 c4 hs hN
      have hpos : 0 < st.bk := by omega
      obtain ⟨n', j', q1, q2, q3, q4⟩ := u.here hpos
      obtain ⟨i, j, k, w1, w2, w3, w4, w5, w6, w7, w8⟩ := cellOf n' j' q1 (by omega)
      obtain ⟨m1, m2⟩ := hm i j k w4 w5 w6 w7 w8 (by omega)
      have hk : k = N := ar_up w1 q2 m1 g1
      have m2 := m2 hk
      have g := row_ge (a := a) (b := b) (alo := alo) (blo := blo) (bhi := bhi) N I J hN c1 c3 c4 hs
      obtain ⟨r, hr⟩ : ∃ r, I + N - 1 - alo = r := ⟨_, rfl⟩
      obtain ⟨u', hu⟩ : ∃ u', J + N - 1 = u' := ⟨_, rfl⟩
      rw [hr, hu] at g
      replace hr : alo + r + 1 = I + N := ar_r hr c1 hN
      replace hu : u' + 1 = J + N := by clear hm; omega
      have gb : Before d 0 r u' := .inl (ar_lt hr c2)
      have g2 := u.most _ _ gb
      have hb : (N : Int) = st.bk := by rw [← q2, ← w1, hk]
      have g3 := u.first _ _ gb (by clear stC cellOf hm; omega) hpos
      exact ar_key w2 w3 q3 q4 hk hb m2 hr hu g3
  obtain ⟨k1, k2, k3⟩ := key
  refine ⟨Int.natCast_nonneg _, Int.ofNat_le.mpr a1, Int.ofNat_le.mpr a2, Int.natCast_nonneg _, Int.ofNat_le.mpr b1, Int.ofNat_le.mpr b2, ⟨st.kv, ?_⟩, Int.natCast_nonneg _, Int.ofNat_le.mpr c1, Int.ofNat_le.mpr c2, Int.ofNat_le.mpr c3, Int.ofNat_le.mpr c4, fun h1 h2 he => ?_, fun h1 h2 he => ?_⟩
  · rw [e, hr, ← k1, ← k2, ← k3]
  · obtain ⟨i, rfl⟩ : ∃ i, I = i + 1 := ⟨I - 1, by omega⟩
    obtain ⟨j, rfl⟩ : ∃ j, J = j + 1 := ⟨J - 1, by omega⟩
    have e1 : (((i + 1 : Nat) : Int) - 1).toNat = i := by omega
    have e2 : (((j + 1 : Nat) : Int) - 1).toNat = j := by omega
    rw [e1, e2] at he
    have hN : 0 < N := by
      rcases Nat.eq_zero_or_pos N with hN | hN
      · have := z hN; omega
      · exact hN
    have := hm i j (N + 1) (by omega) (by omega) (by omega) (by omega) (fun t ht => by
      cases t with
      | zero =>
        refine ⟨a.getD i 0, ?_, ?_⟩
        · simp [List.getD, show i < a.length by omega]
        · rw [he]; simp [List.getD, show j < b.length by omega]
      | succ t =>
        have := hs t (by omega)
        rw [show i + (t + 1) = i + 1 + t by omega, show j + (t + 1) = j + 1 + t by omega]; exact this) (by omega)
    exact (Nat.not_succ_le_self N this.1).elim
  · have e1 : ((I : Int) + N).toNat = I + N := by omega
    have e2 : ((J : Int) + N).toNat = J + N := by omega
    rw [e1, e2] at he
    have := hm I J (N + 1) (by omega) (by omega) (by omega) (by omega) (fun t ht => by
      by_cases q : t < N
      · exact hs t q
      · obtain rfl : t = N := by omega
        refine ⟨a.getD (I + t) 0, ?_, ?_⟩
        · simp [List.getD, show I + t < a.length by omega]
        · rw [he]; simp [List.getD, show J + t < b.length by omega]) (by omega)
    exact (Nat.not_succ_le_self N this.1).elim
end Mine
end
section
open PySem PySem.W PySem.Calls PyProof.Rows
namespace Mine
theorem fm_cast {a b : List Int} {A H B C I J N : Nat} {alo ahi blo bhi bi bj bk : Int} (h : Longest a b A H B C I J N) (e1 : (A : Int) = alo) (e2 : (H : Int) = ahi) (e3 : (B : Int) = blo) (e4 : (C : Int) = bhi) (e5 : (I : Int) = bi) (e6 : (J : Int) = bj) (e7 : (N : Int) = bk) : FM a b alo ahi blo bhi bi bj bk := by
  subst e1 e2 e3 e4 e5 e6 e7; exact fm_of h
/-- the longest stretch of two whole lists, and the first of its length -/
structure Core (X Y : List Int) (I J N : Nat) : Prop where
  is : Stretch X Y I J N
  most : ∀ i j k, Stretch X Y i j k → 0 < k → k ≤ N ∧ (k = N → I < i ∨ (I = i ∧ J ≤ j))
/-- the two heads -/
structure Heads (u v w : Int) (X Y : List Int) : Prop where
  uv : u ≠ v
  uw : u ≠ w
  vw : v ≠ w
  uX : u ∉ X
  uY : u ∉ Y
  vY : v ∉ Y
  wX : w ∉ X
theorem heads_cases {u v w : Int} {X Y : List Int} (H : Heads u v w X Y) {i j k : Nat} (h : Stretch (u :: v :: X) (u :: w :: Y) i j k) (hk : 0 < k) : (i = 0 ∧ j = 0 ∧ k = 1) ∨ (2 ≤ i ∧ 2 ≤ j ∧ Stretch X Y (i - 2) (j - 2) k) := by
  obtain ⟨x, h1, h2⟩ := h 0 hk
  rw [Nat.add_zero] at h1 h2
  match i, j with
  | 0, 0 =>
    refine .inl ⟨rfl, rfl, ?_⟩
    refine Classical.byContradiction fun hne => ?_
    obtain ⟨y, g1, g2⟩ := h 1 (by omega)
    simp at g1 g2
    exact H.vw (g1.trans g2.symm)
  | 0, 1 => simp at h1 h2; exact absurd (h1.trans h2.symm) H.uw
  | 0, j + 2 => simp at h1 h2; exact absurd (h1 ▸ List.mem_of_getElem? h2) H.uY
  | 1, 0 => simp at h1 h2; exact absurd (h2.trans h1.symm) H.uv
  | 1, 1 => simp at h1 h2; exact absurd (h1.trans h2.symm) H.vw
  | 1, j + 2 => simp at h1 h2; exact absurd (h1 ▸ List.mem_of_getElem? h2) H.vY
  | i + 2, 0 => simp at h1 h2; exact absurd (h2 ▸ List.mem_of_getElem? h1) H.uX
  | i + 2, 1 => simp at h1 h2; exact absurd (h2 ▸ List.mem_of_getElem? h1) H.wX
  | i + 2, j + 2 =>
    refine .inr ⟨by omega, by omega, fun t ht => ?_⟩
    obtain ⟨y, g1, g2⟩ := h t ht
    rw [show i + 2 + t = (i + t) + 1 + 1 by omega] at g1
    rw [show j + 2 + t = (j + t) + 1 + 1 by omega] at g2
    simp at g1 g2
    exact ⟨y, by simpa using g1, by simpa using g2⟩
theorem stretch_up {u v w : Int} {X Y : List Int} {i j k : Nat} (h : Stretch X Y i j k) : Stretch (u :: v :: X) (u :: w :: Y) (i + 2) (j + 2) k := fun t ht => by
  obtain ⟨y, g1, g2⟩ := h t ht
  refine ⟨y, ?_, ?_⟩
  · rw [show i + 2 + t = (i + t) + 1 + 1 by omega]; simpa using g1
  · rw [show j + 2 + t = (j + t) + 1 + 1 by omega]; simpa using g2
section
variable {u v w : Int} {X Y : List Int} {I J N : Nat}
theorem le_two {I N m : Nat} (h : I + N ≤ m) : I + 2 + N ≤ m + 2 := by omega
theorem ar_shift {I J N i j k : Nat} (h1 : 2 ≤ i) (h2 : 2 ≤ j) (h : k ≤ N ∧ (k = N → I < i - 2 ∨ (I = i - 2 ∧ J ≤ j - 2))) : k ≤ N ∧ (k = N → I + 2 < i ∨ (I + 2 = i ∧ J + 2 ≤ j)) := by
  obtain ⟨i, rfl⟩ : ∃ i', i = i' + 2 := ⟨i - 2, (Nat.sub_add_cancel h1).symm⟩
  obtain ⟨j, rfl⟩ : ∃ j', j = j' + 2 := ⟨j - 2, (Nat.sub_add_cancel h2).symm⟩
  rw [Nat.add_sub_cancel, Nat.add_sub_cancel] at h
  refine ⟨h.1, fun e => (h.2 e).imp (fun q => Nat.add_lt_add_right q 2) fun q => ⟨by rw [q.1], Nat.add_le_add_right q.2 2⟩⟩
theorem long_main (H : Heads u v w X Y) (c : Core X Y I J N) (hN : 2 ≤ N) : Longest (u :: v :: X) (u :: w :: Y) 0 (X.length + 2) 0 (Y.length + 2) (I + 2) (J + 2) N := by
  have hl := c.is.le (by omega)
  refine ⟨Nat.zero_le _, Nat.le_refl _, Nat.zero_le _, Nat.le_refl _, Nat.zero_le _, le_two hl.1, Nat.zero_le _, le_two hl.2, fun e => absurd (e ▸ hN) (by decide), stretch_up c.is, fun i j k _ _ _ _ hs hk => ?_⟩
  rcases heads_cases H hs hk with ⟨rfl, rfl, rfl⟩ | ⟨h1, h2, h3⟩
  · omega
  · exact ar_shift h1 h2 (c.most _ _ _ h3 hk)
theorem long_one (H : Heads u v w X Y) (c : Core X Y I J 1) : Longest (u :: v :: X) (u :: w :: Y) 0 (X.length + 2) 0 (Y.length + 2) 0 0 1 := by
  refine ⟨Nat.zero_le _, Nat.le_refl _, Nat.zero_le _, Nat.le_refl _, Nat.zero_le _, Nat.succ_le_succ (Nat.zero_le _), Nat.zero_le _, Nat.succ_le_succ (Nat.zero_le _), fun e => absurd e (by decide), fun t ht => ?_, fun i j k _ _ _ _ hs hk => ?_⟩
  · obtain rfl : t = 0 := by omega
    exact ⟨u, rfl, rfl⟩
  · rcases heads_cases H hs hk with ⟨rfl, rfl, rfl⟩ | ⟨h1, h2, h3⟩
    · omega
    · have := c.most _ _ _ h3 hk; omega
theorem long_behind (H : Heads u v w X Y) (c : Core X Y I J N) (hN : 1 ≤ N) : Longest (u :: v :: X) (u :: w :: Y) 1 (X.length + 2) 1 (Y.length + 2) (I + 2) (J + 2) N := by
  have hl := c.is.le (by omega)
  refine ⟨Nat.le_add_left 1 _, Nat.le_refl _, Nat.le_add_left 1 _, Nat.le_refl _, Nat.le_add_left 1 _, le_two hl.1, Nat.le_add_left 1 _, le_two hl.2, fun e => absurd (e ▸ hN) (by decide), stretch_up c.is, fun i j k _ _ _ _ hs hk => ?_⟩
  rcases heads_cases H hs hk with ⟨rfl, rfl, rfl⟩ | ⟨h1, h2, h3⟩
  · omega
  · exact ar_shift h1 h2 (c.most _ _ _ h3 hk)
theorem long_head (H : Heads u v w X Y) (hI : I ≤ X.length) (hJ : J ≤ Y.length) (hz : I = 0 ∨ J = 0) : Longest (u :: v :: X) (u :: w :: Y) 0 (I + 2) 0 (J + 2) 0 0 1 := by
  refine ⟨by omega, by simp; omega, by omega, by simp; omega, by omega, by omega, by omega, by omega, by omega, fun t ht => ?_, fun i j k _ _ _ _ hs hk => ?_⟩
  · obtain rfl : t = 0 := by omega
    exact ⟨u, rfl, rfl⟩
  · rcases heads_cases H hs hk with ⟨rfl, rfl, rfl⟩ | ⟨h1, h2, h3⟩
    · omega
    · omega
theorem long_none (H : Heads u v w X Y) (hI : I ≤ X.length) (hJ : J ≤ Y.length) (hz : I = 0 ∨ J = 0) : Longest (u :: v :: X) (u :: w :: Y) 1 (I + 2) 1 (J + 2) 1 1 0 := by
  refine ⟨by omega, by simp; omega, by omega, by simp; omega, by omega, by omega, by omega, by omega, by omega, fun t ht => by omega, fun i j k _ _ _ _ hs hk => ?_⟩
  rcases heads_cases H hs hk with ⟨rfl, rfl, rfl⟩ | ⟨h1, h2, h3⟩
  · omega
  · omega
end
section
variable {c : List Int} {p q : Int}
/-- two words alike but for the exchange of the last two items -/
theorem near (hpq : p ≠ q) {i j k : Nat} (h : Stretch (c ++ [p, q]) (c ++ [q, p]) i j k) : k ≤ c.length + 1 ∧ (k = c.length + 1 → (i = 0 ∧ j = 1) ∨ (i = 1 ∧ j = 0)) := by
  by_cases hk : k ≤ c.length
  · exact ⟨by omega, fun e => by omega⟩
  have hl := h.le (by omega)
  simp only [List.length_append, List.length_cons, List.length_nil] at hl
  have key : i = j → False := fun e => by
    subst e
    obtain ⟨x, h1, h2⟩ := h (c.length - i) (by omega)
    by_cases hi : i ≤ c.length
    · rw [show i + (c.length - i) = c.length by omega] at h1 h2
      simp at h1 h2
      exact hpq (h1.trans h2.symm)
    · have h1' := h1; have h2' := h2
      rw [show i + (c.length - i) = c.length + 1 by omega] at h1' h2'
      simp [List.getElem?_append_right] at h1' h2'
      exact hpq (h2'.trans h1'.symm)
  refine ⟨?_, fun _ => ?_⟩
  · refine Classical.byContradiction fun hne => key (by omega)
  · refine Classical.byContradiction fun hne => key (by omega)
theorem at_p : (c ++ [p, q])[c.length]? = some p := by simp
theorem at_q : (c ++ [p, q])[c.length + 1]? = some q := by simp [List.getElem?_append_right]
theorem at_c {t : Nat} (h : t < c.length) : (c ++ [p, q])[t]? = c[t]? := List.getElem?_append_left h
/-- a list each of whose items is the next one -/
theorem const {x : Int} (h1 : ∀ t, t + 1 < c.length → c[t]? = c[t + 1]?) (h2 : 0 < c.length → c[c.length - 1]? = some x) : ∀ y ∈ c, y = x := by
  have : ∀ d t, t + d + 1 = c.length → c[t]? = some x := by
    intro d
    induction d with
    | zero => intro t ht; rw [← h2 (by omega)]; congr 1; omega
    | succ d ih => intro t ht; rw [h1 t (by omega)]; exact ih (t + 1) (by omega)
  intro y hy
  obtain ⟨t, ht, e⟩ := List.getElem_of_mem hy
  have := this (c.length - 1 - t) t (by omega)
  rw [List.getElem?_eq_getElem ht] at this
  rw [← e]; exact Option.some.inj this
theorem not_shift {y z : Int} (hy : y ∈ c) (hz : z ∈ c) (hyz : y ≠ z) : ¬ Stretch (c ++ [p, q]) (c ++ [q, p]) 0 1 (c.length + 1) ∧ ¬ Stretch (c ++ [p, q]) (c ++ [q, p]) 1 0 (c.length + 1) := by
  refine ⟨fun h => ?_, fun h => ?_⟩
  · have := const (c := c) (x := q) (fun t ht => by
      obtain ⟨x, h1, h2⟩ := h t (by omega)
      rw [Nat.zero_add, at_c (by omega)] at h1
      rw [Nat.add_comm 1 t, at_c (by omega)] at h2
      rw [h1, h2]) (fun hp => by
      obtain ⟨x, h1, h2⟩ := h (c.length - 1) (by omega)
      rw [Nat.zero_add, at_c (by omega)] at h1
      rw [show 1 + (c.length - 1) = c.length by omega, at_p] at h2
      rw [h1, h2])
    exact hyz ((this y hy).trans (this z hz).symm)
  · have := const (c := c) (x := p) (fun t ht => by
      obtain ⟨x, h1, h2⟩ := h t (by omega)
      rw [Nat.add_comm 1 t, at_c (by omega)] at h1
      rw [Nat.zero_add, at_c (by omega)] at h2
      rw [h1, h2]) (fun hp => by
      obtain ⟨x, h1, h2⟩ := h (c.length - 1) (by omega)
      rw [show 1 + (c.length - 1) = c.length by omega, at_p] at h1
      rw [Nat.zero_add, at_c (by omega)] at h2
      rw [h1, h2])
    exact hyz ((this y hy).trans (this z hz).symm)
theorem core_A (hpq : p ≠ q) {y z : Int} (hy : y ∈ c) (hz : z ∈ c) (hyz : y ≠ z) : Core (c ++ [p, q]) (c ++ [q, p]) 0 0 c.length := by
  refine ⟨fun t ht => ⟨c[t], ?_, ?_⟩, fun i j k h hk => ?_⟩
  · rw [Nat.zero_add, at_c ht, List.getElem?_eq_getElem ht]
  · rw [Nat.zero_add, at_c ht, List.getElem?_eq_getElem ht]
  · have n := near hpq h
    obtain ⟨s1, s2⟩ := not_shift (p := p) (q := q) hy hz hyz
    refine ⟨?_, fun _ => by omega⟩
    refine Classical.byContradiction fun hne => ?_
    have e : k = c.length + 1 := by omega
    subst e
    rcases n.2 rfl with ⟨rfl, rfl⟩ | ⟨rfl, rfl⟩
    · exact s1 h
    · exact s2 h
theorem core_C (hpq : p ≠ q) (hs : Stretch (c ++ [p, q]) (c ++ [q, p]) 0 1 (c.length + 1)) : Core (c ++ [p, q]) (c ++ [q, p]) 0 1 (c.length + 1) := by
  refine ⟨hs, fun i j k h hk => ?_⟩
  have n := near hpq h
  exact ⟨n.1, fun e => by have := n.2 e; omega⟩
theorem core_D (hpq : p ≠ q) (hs : Stretch (c ++ [p, q]) (c ++ [q, p]) 1 0 (c.length + 1)) (hn : ¬ Stretch (c ++ [p, q]) (c ++ [q, p]) 0 1 (c.length + 1)) : Core (c ++ [p, q]) (c ++ [q, p]) 1 0 (c.length + 1) := by
  refine ⟨hs, fun i j k h hk => ?_⟩
  have n := near hpq h
  refine ⟨n.1, fun e => ?_⟩
  rcases n.2 e with ⟨rfl, rfl⟩ | h'
  · subst e; exact absurd h hn
  · omega
/-- behind the common beginning: the last but one item of the one, the last one of the other -/
theorem long_last {u v w : Int} (H : Heads u v w (c ++ [p, q]) (c ++ [q, p])) (hpq : p ≠ q) : Longest (u :: v :: (c ++ [p, q])) (u :: w :: (c ++ [q, p])) (c.length + 2) (c.length + 4) (c.length + 2) (c.length + 4) (c.length + 2) (c.length + 3) 1 := by
  refine ⟨by omega, by simp, by omega, by simp, by omega, by omega, by omega, by omega, by omega, fun t ht => ?_, fun i j k a1 a2 a3 a4 hs hk => ?_⟩
  · obtain rfl : t = 0 := by omega
    refine ⟨p, ?_, ?_⟩
    · rw [show c.length + 2 + 0 = c.length + 1 + 1 by omega]; simp
    · rw [show c.length + 3 + 0 = c.length + 1 + 1 + 1 by omega]
      simp only [List.getElem?_cons_succ]
      exact at_q
  · rcases heads_cases H hs hk with ⟨rfl, rfl, rfl⟩ | ⟨h1, h2, h3⟩
    · omega
    · have hne : ¬ (i = c.length + 2 ∧ j = c.length + 2) := by
        rintro ⟨rfl, rfl⟩
        obtain ⟨x, g1, g2⟩ := h3 0 hk
        rw [show c.length + 2 - 2 + 0 = c.length by omega, at_p] at g1 g2
        exact hpq ((Option.some.inj g1).trans (Option.some.inj g2).symm)
      omega
end
end Mine
end
section
open PySem PySem.W PySem.Calls PyProof.Rows
set_option maxRecDepth 100000
namespace Mine
section
variable {prog : Program} {w : World} {A : Around} {E : Value → Shared → Prop} {s : Shared} {env : Env} {h₀ : Heap} {body : List Stmt} {Q : Flow → Shared → Prop} {elts : List PySem.Expr} {kk : Nat} {pos : Pos}
/-- enumerate over a list that stands in the base, with any invariant -/
theorem enumJ {l : Addr} {vs : List Value} {m₀ : Str → Option Value} {news : List (Addr × Obj)} (J : Nat → (Str → Option Value) → List (Addr × Obj) → Prop)
    (hh : A.handled = none) (hl : h₀.IsList l vs.toArray) (F : Fr h₀ env.locals s.heap m₀) (N : News h₀ env.locals s.heap news) (hj : J 0 m₀ news)
    (turn : ∀ i x T t m₁ news₁ h tk e1 i1 oE oI, vs[i]? = some x → J i m₁ news₁ → (∀ p ∈ news₁, p.1 ≠ e1 ∧ p.1 ≠ i1) → IsTup h T #[.int i t, x] → Fr h₀ env.locals h m₁ → News h₀ env.locals h ((e1, oE) :: (i1, oI) :: news₁) →
      wpAny (model prog w) A (assign (.Tuple elts kk pos) env (.ref T)) (fun _ s₃ => wpAny (model prog w) A (execs body env) (PostJ h₀ env.locals [e1, i1] [(e1, oE), (i1, oI)] (J (i + 1)) { s with heap := h, toks := tk } Q) E s₃) E { s with heap := h, toks := tk })
    (done : ∀ m₁ news₁ h tk, J vs.length m₁ news₁ → Fr h₀ env.locals h m₁ → News h₀ env.locals h news₁ → Q .next { s with heap := h, toks := tk }) :
    wpAny (model prog w) A (call (.type "enumerate") [.ref l]) (fun xv s₁ => wpAny (model prog w) A (pyIter xv) (fun it s₂ => TurnsAt prog w A h₀ env (.Tuple elts kk pos) body Q E it s₂) E s₁) E s := by
  have hls : s.heap.IsList l vs.toArray := hl.at fun o e => F.keep l o e
  obtain ⟨ol, hol, _⟩ := id hl
  have hlt : l < s.heap.objs.size := Nat.lt_trans (Nat.lt_of_lt_of_le (Heap.lt_size hol) F.above) F.ns.lt
  have hLs : env.locals < s.heap.objs.size := F.ns.lt
  refine call_enumerate_list hls fun h' hE hI hsz hk => ?_
  refine wpAny_pyIter_enum hE ?_
  have W := KTurns.ofWalksU (elts := elts) (k := kk) (pos := pos) (WalksT.enumerate (prog := prog) (w := w) hh (s.heap.objs.size + 1) s.heap.objs.size l (Nat.succ_ne_self _) (Nat.ne_of_lt (Nat.lt_succ_of_lt hlt)) (Nat.ne_of_lt hlt) vs.toArray).toU
  have new0 : h₀.get? s.heap.objs.size = none := next_is_new F
  have new1 : h₀.get? (s.heap.objs.size + 1) = none := by
    cases q : h₀.get? (s.heap.objs.size + 1) with
    | none => rfl
    | some o => exact absurd (Nat.lt_trans (Nat.lt_succ_self _) (Heap.lt_size (F.keep _ _ q))) (Nat.lt_irrefl _)
  refine ⟨_, _, _, _, _, _, _, m₀, news, J, rfl, W, ?_, ?_, ?_, ⟨⟨_, hE⟩, hI, hls.at fun o e => hk _ _ e⟩, ⟨F.ns.keeps hk, fun b o e => hk _ _ (F.keep b o e), F.above⟩, fun p hp => ⟨hk _ _ (N p hp).1, (N p hp).2⟩, hj, ?_, ?_⟩
  · intro hm
    simp only [List.mem_cons, List.not_mem_nil, or_false] at hm
    rcases hm with e | e | e
    · exact absurd (Nat.lt_trans (Nat.lt_succ_self _) (e ▸ hLs)) (Nat.lt_irrefl _)
    · exact absurd (e ▸ hLs) (Nat.lt_irrefl _)
    · exact absurd (Nat.lt_of_lt_of_le (Heap.lt_size hol) F.above) (by rw [e]; exact Nat.lt_irrefl _)
  · intro b hb
    simp only [List.mem_cons, List.not_mem_nil, or_false] at hb
    rcases hb with rfl | rfl
    · exact new1
    · exact new0
  · intro p hp hI'
    have z := Heap.lt_size (N p hp).1
    simp only [List.mem_cons, List.not_mem_nil, or_false] at hI'
    rcases hI' with e | e
    · rw [e] at z; exact absurd (Nat.lt_trans (Nat.lt_succ_self _) z) (Nat.lt_irrefl _)
    · rw [e] at z; exact absurd z (Nat.lt_irrefl _)
  · rintro i v m₁ news₁ h₁ tk₁ own hi ⟨T, vals, rfl, ⟨t, x, hx, rfl⟩, hT⟩ hJ hoff hown hown2 hall ⟨⟨old, he⟩, ⟨oi, hoi, _⟩, _⟩ F₁ N₁
    obtain ⟨oe, he⟩ : ∃ oe, h₁.get? (s.heap.objs.size + 1) = some oe := ⟨_, he⟩
    have m1 := hall (s.heap.objs.size + 1) (by simp) new1 _ he
    have m2 := hall s.heap.objs.size (by simp) new0 _ hoi
    have e : ∀ p ∈ own, p ∈ [(s.heap.objs.size + 1, oe), (s.heap.objs.size, oi)] := fun p hp => by
      have a := hown p hp
      have b := hown2 p hp
      simp only [List.mem_cons, List.not_mem_nil, or_false] at a
      rcases a with a | a | a
      · rw [a, he] at b
        rw [show p = (s.heap.objs.size + 1, p.2) from Prod.ext a rfl, ← Option.some.inj b]
        exact .head _
      · rw [a, hoi] at b
        rw [show p = (s.heap.objs.size, p.2) from Prod.ext a rfl, ← Option.some.inj b]
        exact .tail _ (.head _)
      · have c := (N₁ p (List.mem_append_left _ hp)).2.2
        rw [a, hol] at c; cases c
    have N2 : News h₀ env.locals h₁ ((s.heap.objs.size + 1, oe) :: (s.heap.objs.size, oi) :: news₁) := fun p hp => by
      rcases List.mem_cons.mp hp with rfl | hp
      · exact N₁ _ (List.mem_append_left _ m1)
      · rcases List.mem_cons.mp hp with rfl | hp
        · exact N₁ _ (List.mem_append_left _ m2)
        · exact N₁ p (List.mem_append_right _ hp)
    refine wpAny_mono (turn i x T t m₁ news₁ h₁ tk₁ _ _ oe oi (by simpa using hx) hJ (fun p hp => ?_) hT F₁ N2) (fun _ s₃ q => wpAny_mono q (fun f s₂ p => ?_) fun _ _ e => e) fun _ _ e => e
    · have := hoff p hp
      simp only [List.mem_cons, List.not_mem_nil, or_false, not_or] at this
      exact this
    · have go : (∃ h' tk' m' nx, s₂ = { ({ s with heap := h₁, toks := tk₁ } : Shared) with heap := h', toks := tk' } ∧ Fr h₀ env.locals h' m' ∧ News h₀ env.locals h' ([(s.heap.objs.size + 1, oe), (s.heap.objs.size, oi)] ++ nx) ∧ (∀ p ∈ nx, p.1 ∉ [s.heap.objs.size + 1, s.heap.objs.size]) ∧ J (i + 1) m' nx) →
          ∃ h' tk' m' nx, s₂ = { ({ s with heap := h₁, toks := tk₁ } : Shared) with heap := h', toks := tk' } ∧ Fr h₀ env.locals h' m' ∧ News h₀ env.locals h' (own ++ nx) ∧ (∀ p ∈ nx, p.1 ∉ [s.heap.objs.size + 1, s.heap.objs.size]) ∧ J (i + 1) m' nx := by
        rintro ⟨h', tk', m', nx, e1, F3, N3, o3, j3⟩
        exact ⟨h', tk', m', nx, e1, F3, fun p hp => N3 p ((List.mem_append.mp hp).elim (fun q => List.mem_append_left _ (e p q)) (List.mem_append_right _)), o3, j3⟩
      cases f with
      | ret v => exact p
      | brk => exact p
      | next => obtain ⟨a, b, c, d, r⟩ := go p; exact ⟨rfl, a, b, c, d, r⟩
      | cont => obtain ⟨a, b, c, d, r⟩ := go p; exact ⟨rfl, a, b, c, d, r⟩
  · rintro h' tk m' news' F' N' _ hJ
    have e : vs.toArray.size = vs.length := by simp
    exact done m' news' h' tk (by rw [← e]; exact hJ) F' N'
end
end Mine
end
theorem Mine.flush1 {M : PySem.Model} {A : PySem.Around} {env : PySem.Env} {E : PySem.Value → PySem.Shared → Prop} {Q : PySem.Flow → PySem.Shared → Prop} {s : PySem.Shared} (h : Q .next s) : PySem.wpAny M A (PySem.execs [] env) Q E s := by first | (walk1; exact h) | exact PySem.wpAny_execs_nil h
section
open PySem PySem.W PySem.Calls PyProof.Rows
set_option maxRecDepth 100000
namespace Mine
noncomputable abbrev envC (L : Addr) : Env := envOf (Str.ofString "SequenceMatcher.__chain_b") S188 L 188 (.ref 187)
noncomputable def CB : List Stmt := forBody (nth B188 2)
noncomputable def CA : List Stmt := CB.drop 1
local macro_rules | `(tactic| k_all) => `(tactic| assumption)
set_option maxHeartbeats 1000000 in
theorem chain_app {w : World} {A : Around} {s : Shared} {g : Heap} {L lv : Addr} {m mg mb : Str → Option Value} {mean : ExcName → Option Value} {vs : Array Value} {c : Nat} {post : List (Addr × Obj)} {Q : Flow → Shared → Prop} {n : Int} {t : Tok}
    (X : (K w.params).In g) (T : Top qv (looseW qv loose) mean mg mb g) (hlen : vs.size ≤ 100000)
    (F : Fr g L s.heap (over [(Str.ofString "indices", .ref lv), (Str.ofString "i", .int n t)] m))
    (N : News g L s.heap ((lv, listOf vs c) :: post)) (hoff : ∀ p ∈ post, p.1 ≠ lv)
    (k : ∀ h' tk c', Fr g L h' (over [(Str.ofString "indices", .ref lv), (Str.ofString "i", .int n t)] m) → News g L h' ((lv, listOf (vs.push (.int n t)) c') :: post) → Q .next { s with heap := h', toks := tk }) :
    wpAny (model pw w) A (execs CA (envC L)) Q (fun _ _ => False) s := by
  conv in CA => whnf
  show wpAny _ _ (execs _ _) _ _ _
  repeat' (first | walk1 | (dsimp only; walk1))
  rename Fr g L _ _ => F9
  rename News g L _ _ => N9
  exact k _ _ _ F9 N9
section
variable {prog : Program} {w : World} {A : Around} {E : Value → Shared → Prop} {s : Shared} {h₀ : Heap} {L d : Addr} {m : Str → Option Value} {news post : List (Addr × Obj)} {o : Obj} {kvs : List (Int × Value)} {v : Int} {t : Tok}
theorem getMethod_sd {pl : Sem Bool} {Q : Value × List Value → Shared → Prop} (N : News h₀ L s.heap news) (hp : (d, o) ∈ news) (hd : DObj prog w o kvs) (h : Q (.builtin "dict.setdefault", [.ref d]) s) : wpAny (model prog w) A (getMethod (.ref d) (Str.ofString "setdefault") pl) Q E s := by
  have hm := hd.mapOf (N _ hp).1
  exact getMethod_builtin hm.typeIs PySem.F.plainAttrs_dict PySem.F.slot_dict_setdefault PySem.F.type_dict_setdefault (fun a e => by cases e; obtain ⟨o', es, ep, ho, hc, _⟩ := hm; exact ⟨o', ho, hc.2.1⟩) h
theorem setdef {dflt : Value} {Q : Value → Shared → Prop} (F : Fr h₀ L s.heap m) (N : News h₀ L s.heap ((d, o) :: post)) (hoff : ∀ p ∈ post, p.1 ≠ d) (hd : DObj prog w o kvs) (hlen : kvs.length ≤ 100000) (lo : (d == sysModules) = false)
    (h1 : ∀ x, valueAt kvs v = some x → Q x { s with toks := s.toks + 1 })
    (h2 : valueAt kvs v = none → ∀ h' o', Fr h₀ L h' m → News h₀ L h' ((d, o') :: post) → DObj prog w o' (stored kvs v dflt) → Q dflt { s with heap := h', toks := s.toks + 1 }) :
    wpAny (model prog w) A (call (.builtin "dict.setdefault") [.ref d, .int v t, dflt]) Q E s := by
  have z := N (d, o) (.head _)
  have hD := hd.at z.1
  refine call_meetsIn PySem.F.slot_dict_setdefault hD.typeIs PySem.F.entry_dict_setdefault (PySem.F.args_dict_setdefault_3 _ _ _) (kt_meets_setdefault (intKind prog w) d (k := v) (by simp [intKind, Value.isInt]) lo dflt)
    ⟨kvs, hD, (by have := sizeLine_eq; omega), h1, fun hn h' hmm hs => ?_⟩
  obtain ⟨o', ho', hd'⟩ := DObj.of hmm
  refine h2 hn h' o' (F.change hs z.2.1 z.2.2) (fun p hp => ?_) hd'
  rcases List.mem_cons.mp hp with rfl | hp
  · exact ⟨ho', z.2⟩
  · exact ⟨(hs.2 p.1 (hoff p hp)).trans (N p (.tail _ hp)).1, (N p (.tail _ hp)).2⟩
end
noncomputable abbrev Ent := Int × Addr × Obj
noncomputable abbrev kvE (ent : List Ent) : List (Int × Value) := ent.map fun e => (e.1, Value.ref e.2.1)
noncomputable abbrev lsE (ent : List Ent) : List (Addr × Obj) := ent.map (·.2)
/-- the table of places after the items pre -/
structure BS (pre : List Int) (ent : List Ent) : Prop where
  keys : (ent.map (·.1)).Nodup
  adr : (ent.map (·.2.1)).Nodup
  list : ∀ e ∈ ent, ∃ vj c, e.2.2 = listOf (List.toArray vj) c ∧ IntsAre vj (idxs e.1 pre 0)
  miss : ∀ v, v ∉ ent.map (·.1) → idxs v pre 0 = []
theorem idxs_snoc (v x : Int) : ∀ (pre : List Int) (n : Nat), idxs v (pre ++ [x]) n = idxs v pre n ++ (if x = v then [((n + pre.length : Nat) : Int)] else [])
  | [], n => by simp [idxs]
  | b :: r, n => by
    simp only [List.cons_append, idxs]
    rw [idxs_snoc v x r (n + 1)]
    have e : n + 1 + r.length = n + (b :: r).length := by simp; omega
    rw [e]
    split <;> simp
theorem valueAt_ent {v : Int} : ∀ {ent : List Ent}, (ent.map (·.1)).Nodup → (valueAt (kvE ent) v = none ∧ v ∉ ent.map (·.1)) ∨ ∃ e ∈ ent, e.1 = v ∧ valueAt (kvE ent) v = some (.ref e.2.1)
  | [], _ => .inl ⟨rfl, by simp⟩
  | e :: r, h => by
    by_cases q : e.1 = v
    · exact .inr ⟨e, .head _, q, by simp [valueAt, kvE, q]⟩
    · have hn := (List.nodup_cons.mp h).2
      have step : valueAt (kvE (e :: r)) v = valueAt (kvE r) v := by simp [valueAt, kvE, List.find?_cons, q]
      rcases valueAt_ent (v := v) hn with ⟨a, b⟩ | ⟨e', m', a, b⟩
      · exact .inl ⟨step.trans a, by simp only [List.map_cons, List.mem_cons, not_or]; exact ⟨Ne.symm q, b⟩⟩
      · exact .inr ⟨e', .tail _ m', a, step.trans b⟩
theorem stored_ent {v : Int} {a : Addr} {ent : List Ent} {o : Obj} (h : v ∉ ent.map (·.1)) : stored (kvE ent) v (.ref a) = kvE (ent ++ [(v, a, o)]) := by
  unfold stored
  rw [if_neg]
  · simp [kvE]
  · simp only [List.any_eq_true, not_exists, not_and]
    rintro ⟨k, x⟩ hk e
    obtain ⟨e', he', q⟩ := List.mem_map.mp hk
    simp only [Prod.mk.injEq] at q
    simp only [decide_eq_true_eq] at e
    exact h (List.mem_map.mpr ⟨e', he', q.1.trans e⟩)
end Mine
end
section
open PySem PySem.W PySem.Calls PyProof.Rows
set_option maxRecDepth 100000
namespace Mine
theorem BS.new {pre : List Int} {ent : List Ent} {v : Int} {a : Addr} (h : BS pre ent) (hv : v ∉ ent.map (·.1)) (ha : a ∉ ent.map (·.2.1)) (c : Nat) : BS pre (ent ++ [(v, a, listOf #[] c)]) := by
  obtain ⟨h1, h2, h3, h4⟩ := h
  refine ⟨?_, ?_, ?_, ?_⟩
  · rw [List.map_append, List.nodup_append]
    exact ⟨h1, by simp, fun x hx y hy => by simp only [List.map_cons, List.map_nil, List.mem_singleton] at hy; subst hy; exact fun e => hv (e ▸ hx)⟩
  · rw [List.map_append, List.nodup_append]
    exact ⟨h2, by simp, fun x hx y hy => by simp only [List.map_cons, List.map_nil, List.mem_singleton] at hy; subst hy; exact fun e => ha (e ▸ hx)⟩
  · intro e he
    rcases List.mem_append.mp he with he | he
    · exact h3 e he
    · rw [List.mem_singleton.mp he]
      exact ⟨[], c, rfl, by rw [h4 v hv]; exact .nil⟩
  · intro u hu
    exact h4 u fun q => hu (by rw [List.map_append]; exact List.mem_append_left _ q)
theorem ints_snoc {vj : List Value} {js : List Int} (h : IntsAre vj js) (n : Int) (t : Tok) : IntsAre (vj ++ [.int n t]) (js ++ [n]) := IntsAre.append h (.cons n t .nil)
theorem BS.upd {pre : List Int} {x y : List Ent} {v : Int} {a : Addr} {vj : List Value} {c c' : Nat} {t : Tok} (h : BS pre (x ++ (v, a, listOf vj.toArray c) :: y)) (hj : IntsAre vj (idxs v pre 0)) :
    BS (pre ++ [v]) (x ++ (v, a, listOf (vj.toArray.push (.int (pre.length : Int) t)) c') :: y) := by
  obtain ⟨h1, h2, h3, h4⟩ := h
  have hne : ∀ e ∈ x ++ y, e.1 ≠ v := by
    intro e he q
    rw [List.map_append, List.map_cons] at h1
    have := (List.nodup_append.mp h1)
    rcases List.mem_append.mp he with he | he
    · exact this.2.2 e.1 (List.mem_map_of_mem he) v (.head _) q
    · exact (List.nodup_cons.mp this.2.1).1 (List.mem_map.mpr ⟨e, he, q⟩)
  refine ⟨by simpa using h1, by simpa using h2, ?_, ?_⟩
  · intro e he
    rcases List.mem_append.mp he with he | he
    · obtain ⟨w, d, e1, e2⟩ := h3 e (List.mem_append_left _ he)
      refine ⟨w, d, e1, ?_⟩
      rw [idxs_snoc, if_neg (Ne.symm (hne e (List.mem_append_left _ he))), List.append_nil]; exact e2
    · rcases List.mem_cons.mp he with rfl | he
      · refine ⟨vj ++ [.int (pre.length : Int) t], c', by simp, ?_⟩
        rw [idxs_snoc, if_pos rfl, Nat.zero_add]
        exact ints_snoc hj _ t
      · obtain ⟨w, d, e1, e2⟩ := h3 e (List.mem_append_right _ (.tail _ he))
        refine ⟨w, d, e1, ?_⟩
        rw [idxs_snoc, if_neg (Ne.symm (hne e (List.mem_append_right _ he))), List.append_nil]; exact e2
  · intro u hu
    have hu' : u ∉ (x ++ (v, a, listOf vj.toArray c) :: y).map (·.1) := by simpa using hu
    rw [idxs_snoc, if_neg (fun q => hu' (by rw [q]; simp)), List.append_nil]
    exact h4 u hu'
theorem mem_lsE {ent : List Ent} {p : Addr × Obj} (h : p ∈ lsE ent) : p.1 ∈ ent.map (·.2.1) := by
  obtain ⟨e, he, rfl⟩ := List.mem_map.mp h
  exact List.mem_map.mpr ⟨e, he, rfl⟩
noncomputable abbrev cS (M lb D : Addr) : List (Str × Value) := [(Str.ofString "self", .ref M), (Str.ofString "b", .ref lb), (Str.ofString "b2j", .ref D)]
set_option maxHeartbeats 2000000 in
theorem chain_turn {w : World} {A : Around} {s : Shared} {g : Heap} {L M lb D : Addr} {m mg mb : Str → Option Value} {mean : ExcName → Option Value} {oD : Obj} {ent : List Ent} {pre : List Int} {post : List (Addr × Obj)} {Q : Flow → Shared → Prop} {v : Int} {t tv : Tok}
    (X : (K w.params).In g) (T : Top qv (looseW qv loose) mean mg mb g) (hD : DObj pw w oD (kvE ent)) (lo : (D == sysModules) = false) (h : BS pre ent) (hlen : pre.length < 100000) (hle : ent.length ≤ pre.length)
    (F : Fr g L s.heap (over [(Str.ofString "elt", .int v tv), (Str.ofString "i", .int (pre.length : Int) t)] (over (cS M lb D) m)))
    (N : News g L s.heap ((D, oD) :: (lsE ent ++ post))) (o1 : ∀ p ∈ lsE ent, p.1 ≠ D) (o2 : ∀ p ∈ post, p.1 ≠ D ∧ p.1 ∉ ent.map (·.2.1))
    (k : ∀ h' tk oD' ent' m', Fr g L h' (over (cS M lb D) m') → News g L h' ((D, oD') :: (lsE ent' ++ post)) → DObj pw w oD' (kvE ent') → BS (pre ++ [v]) ent' → ent'.length ≤ pre.length + 1 → (∀ p ∈ lsE ent', p.1 ≠ D) → (∀ p ∈ post, p.1 ∉ ent'.map (·.2.1)) → Q .next { s with heap := h', toks := tk }) :
    wpAny (model pw w) A (execs CB (envC L)) Q (fun _ _ => False) s := by
  conv in CB => whnf
  show wpAny _ _ (execs _ _) _ _ _
  repeat' (first | (first | (k_here; (with_reducible show wpAny _ _ (getMethod (Value.ref _) (PySem.Str.ofString "setdefault") _) _ _ _); k_dflt (refine' getMethod_sd ?N ?p ?d ?_; (case N => k_asm); (case p => k_mem); (case d => k_asm); k_whole)) | walk1) | (dsimp only; (first | (k_here; (with_reducible show wpAny _ _ (getMethod (Value.ref _) (PySem.Str.ofString "setdefault") _) _ _ _); k_dflt (refine' getMethod_sd ?N ?p ?d ?_; (case N => k_asm); (case p => k_mem); (case d => k_asm); k_whole)) | walk1)))
  rename Fr g L _ _ => F9
  rename News g L _ _ => N9
  rename _ ∧ AllLt _ _ => l9
  rename_i l' h9
  have l9' : ∀ p ∈ lsE ent ++ post, p.1 < l' := allLt_mem l9.2
  have hDl : D ≠ l' := Nat.ne_of_lt l9.1
  have offD : ∀ p ∈ (l', listOf #[] 0) :: (lsE ent ++ post), p.1 ≠ D := fun p hp => by
    rcases List.mem_cons.mp hp with rfl | hp
    · exact Ne.symm hDl
    · rcases List.mem_append.mp hp with hp | hp
      · exact o1 p hp
      · exact (o2 p hp).1
  -- the end of both ways: the list of v's places lies at a
  have fin : ∀ (h' : Heap) (tk : Nat) (oD' : Obj) (x y : List Ent) (a : Addr) (vj : List Value) (c : Nat), Fr g L h' (over [(Str.ofString "elt", .int v tv), (Str.ofString "i", .int (pre.length : Int) t)] (over (cS M lb D) m)) →
      News g L h' ((D, oD') :: (lsE (x ++ (v, a, listOf vj.toArray c) :: y) ++ post)) → DObj pw w oD' (kvE (x ++ (v, a, listOf vj.toArray c) :: y)) → BS pre (x ++ (v, a, listOf vj.toArray c) :: y) → IntsAre vj (idxs v pre 0) →
      (x ++ (v, a, listOf vj.toArray c) :: y).length ≤ pre.length + 1 → (∀ p ∈ lsE (x ++ (v, a, listOf vj.toArray c) :: y), p.1 ≠ D) → (∀ p ∈ post, p.1 ∉ (x ++ (v, a, listOf vj.toArray c) :: y).map (·.2.1)) →
      wpAny (model pw w) A (storeName (envC L) (Str.ofString "indices") (.ref a)) (fun _ s' => wpAny (model pw w) A (execs CA (envC L)) Q (fun _ _ => False) s') (fun _ _ => False) { s with heap := h', toks := tk } := by
    intro h' tk oD' x y a vj c F1 N1 hd1 hb hj hl1 hoD hop
    refine stN F1 N1 fun h2 F2 N2 => ?_
    have ha : a ∉ (x ++ y).map (·.2.1) := by
      have := hb.adr
      rw [List.map_append, List.map_cons] at this
      have z := List.nodup_append.mp this
      rw [List.map_append, List.mem_append, not_or]
      exact ⟨fun q => z.2.2 a q a (.head _) rfl, (List.nodup_cons.mp z.2.1).1⟩
    have hvl : vj.length ≤ pre.length := by
      rw [hj.length]; exact idxs_length _ _ _
    refine chain_app (lv := a) (vs := vj.toArray) (c := c) (n := pre.length) (t := t) (post := (D, oD') :: (lsE x ++ lsE y ++ post)) X T (by simp; omega) (fr_over (S := [(Str.ofString "indices", .ref a), (Str.ofString "i", .int (pre.length : Int) t)]) F2 (by repeat (first | exact List.forall_mem_nil _ | refine List.forall_mem_cons.mpr ⟨rfl, ?_⟩))) (fun p hp => N2 p ?_) (fun p hp => ?_) ?_
    · simp only [lsE, List.map_append, List.map_cons, List.mem_cons, List.mem_append] at hp ⊢
      rcases hp with h | h | (h | h) | h
      · exact .inr (.inl (.inr (.inl h)))
      · exact .inl h
      · exact .inr (.inl (.inl h))
      · exact .inr (.inl (.inr (.inr h)))
      · exact .inr (.inr h)
    · rcases List.mem_cons.mp hp with rfl | hp
      · exact Ne.symm (hoD (a, listOf vj.toArray c) (by simp [lsE]))
      · rcases List.mem_append.mp hp with hp | hp
        · intro q
          refine ha ?_
          rw [← q, List.map_append]
          rcases List.mem_append.mp hp with hp | hp
          · exact List.mem_append_left _ (mem_lsE hp)
          · exact List.mem_append_right _ (mem_lsE hp)
        · intro q
          exact hop p hp (by rw [q]; simp)
    · intro h3 tk3 c3 F3 N3
      refine k h3 tk3 oD' (x ++ (v, a, listOf (vj.toArray.push (.int (pre.length : Int) t)) c3) :: y) _ (fr_over (S := cS M lb D) F3 (by repeat (first | exact List.forall_mem_nil _ | refine List.forall_mem_cons.mpr ⟨rfl, ?_⟩))) (fun p hp => N3 p ?_) ?_ (hb.upd hj) (by simpa using hl1) ?_ ?_
      · simp only [lsE, List.map_append, List.map_cons, List.mem_cons, List.mem_append] at hp ⊢
        rcases hp with h | (h | h | h) | h
        · exact .inr (.inl h)
        · exact .inr (.inr (.inl (.inl h)))
        · exact .inl h
        · exact .inr (.inr (.inl (.inr h)))
        · exact .inr (.inr (.inr h))
      · simpa [kvE] using hd1
      · intro p hp
        simp only [lsE, List.map_append, List.map_cons, List.mem_cons, List.mem_append] at hp
        rcases hp with h | h | h
        · exact hoD p (by simp only [lsE, List.map_append, List.map_cons, List.mem_cons, List.mem_append]; exact .inl h)
        · rw [h]; exact hoD (a, listOf vj.toArray c) (by simp [lsE])
        · exact hoD p (by simp only [lsE, List.map_append, List.map_cons, List.mem_cons, List.mem_append]; exact .inr (.inr h))
      · intro p hp
        have := hop p hp
        simpa using this
  refine setdef (v := v) F9 (news_swap N9) offD hD (by simp; omega) lo ?_ ?_
  · intro x hx
    rcases valueAt_ent (v := v) h.keys with ⟨q, _⟩ | ⟨e, he, q1, q2⟩
    · rw [hx] at q; cases q
    · rw [hx] at q2
      obtain rfl := Option.some.inj q2
      obtain ⟨x, y, rfl⟩ := List.append_of_mem he
      obtain ⟨ev, ea, eo⟩ := e
      simp only at q1
      subst q1
      obtain ⟨vj, c, e1, e2⟩ := h.list _ he
      simp only at e1 e2
      subst e1
      refine fin h9 _ oD x y ea vj c F9 (fun p hp => N9 p ?_) hD h e2 (by omega) o1 (fun p hp => (o2 p hp).2)
      rcases List.mem_cons.mp hp with rfl | hp
      · exact .tail _ (.head _)
      · exact .tail _ (.tail _ hp)
  · intro hn h2 o2' F2 N2 hd2
    have hv : v ∉ ent.map (·.1) := by
      rcases valueAt_ent (v := v) h.keys with ⟨_, q⟩ | ⟨e, he, q1, q2⟩
      · exact q
      · rw [hn] at q2; cases q2
    have ha : l' ∉ ent.map (·.2.1) := fun q => by
      obtain ⟨e, he, q⟩ := List.mem_map.mp q
      exact absurd (l9' e.2 (List.mem_append_left _ (List.mem_map_of_mem he))) (by rw [q]; exact Nat.lt_irrefl _)
    rw [stored_ent (o := listOf #[] 0) hv] at hd2
    refine fin h2 _ o2' ent [] l' [] 0 F2 (fun p hp => N2 p ?_) hd2 (h.new hv ha 0) (by rw [h.miss v hv]; exact .nil) (by simp; omega) ?_ ?_
    · simp only [lsE, List.map_append, List.map_cons, List.map_nil, List.mem_cons, List.mem_append, List.not_mem_nil, or_false] at hp ⊢
      rcases hp with h | (h | h) | h
      · exact .inl h
      · exact .inr (.inr (.inl h))
      · exact .inr (.inl h)
      · exact .inr (.inr (.inr h))
    · intro p hp
      simp only [lsE, List.map_append, List.map_cons, List.map_nil, List.mem_cons, List.mem_append, List.not_mem_nil, or_false] at hp
      rcases hp with h | h
      · exact o1 p h
      · rw [h]; exact Ne.symm hDl
    · intro p hp q
      simp only [List.map_append, List.map_cons, List.map_nil, List.mem_append, List.mem_cons, List.not_mem_nil, or_false] at q
      rcases q with q | q
      · exact (o2 p hp).2 q
      · exact absurd (l9' p (List.mem_append_right _ hp)) (by rw [q]; exact Nat.lt_irrefl _)
end Mine
end
section
open PySem PySem.W PySem.Calls PyProof.Rows
set_option maxRecDepth 100000
namespace Mine
theorem take_snoc {bs : List Int} {i : Nat} (h : i < bs.length) : bs.take (i + 1) = bs.take i ++ [bs[i]] := by
  rw [List.take_succ_eq_append_getElem h]
theorem over2 {a b : Str} {u v : Value} {m : Str → Option Value} : (fun y => if y = a then some u else if y = b then some v else m y) = over [(a, u), (b, v)] m := by
  funext y
  unfold over
  by_cases h1 : y = a
  · subst h1; simp
  · rw [List.lookup_cons, beq_false_of_ne h1]
    by_cases h2 : y = b
    · subst h2; simp [h1]
    · simp [List.lookup_cons, beq_false_of_ne h2, h1, h2]
set_option maxHeartbeats 2000000 in
theorem chain_loop {w : World} {s : Shared} {g : Heap} {L M lb D : Addr} {m mg mb : Str → Option Value} {mean : ExcName → Option Value} {oD : Obj} {vb : List Value} {bs : List Int} {post : List (Addr × Obj)} {Q : Flow → Shared → Prop} {A : Around} {elts : List PySem.Expr} {kk : Nat} {pos : Pos}
    (hh : A.handled = none)
    (X : (K w.params).In g) (T : Top qv (looseW qv loose) mean mg mb g) (hD : DObj pw w oD []) (lo : (D == sysModules) = false)
    (hlb : g.IsList lb vb.toArray) (hvb : IntsAre vb bs) (hlen : bs.length < 100000)
    (F : Fr g L s.heap (over (cS M lb D) m)) (N : News g L s.heap ((D, oD) :: post)) (o2 : ∀ p ∈ post, p.1 ≠ D)
    (k : ∀ h' tk oD' ent' m', Fr g L h' (over (cS M lb D) m') → News g L h' ((D, oD') :: (lsE ent' ++ post)) → DObj pw w oD' (kvE ent') → BS bs ent' → (∀ p ∈ lsE ent', p.1 ≠ D) → (∀ p ∈ post, p.1 ∉ ent'.map (·.2.1)) → Q .next { s with heap := h', toks := tk })
    (has : ∀ i t x tx T s₀ (mm : Str → Option Value) (nn : List (Addr × Obj)) (Q' : Unit → Shared → Prop), IsTup s₀.heap T #[.int i t, .int x tx] → Fr g L s₀.heap mm → News g L s₀.heap nn →
      (∀ h' tk, Fr g L h' (fun y => if y = Str.ofString "elt" then some (.int x tx) else if y = Str.ofString "i" then some (.int i t) else mm y) → News g L h' nn → Q' () { s₀ with heap := h', toks := tk }) → wpAny (model pw w) A (assign (.Tuple elts kk pos) (envC L) (.ref T)) Q' (fun _ _ => False) s₀)  :
    wpAny (model pw w) A (call (.type "enumerate") [.ref lb]) (fun xv s₁ => wpAny (model pw w) A (pyIter xv) (fun it s₂ => TurnsAt pw w A g (envC L) (.Tuple elts kk pos) CB Q (fun _ _ => False) it s₂) (fun _ _ => False) s₁) (fun _ _ => False) s := by
  refine enumJ (env := envC L) (h₀ := g) (fun idx mm nx => ∃ (oD' : Obj) (ent : List Ent) (m' : Str → Option Value), mm = over (cS M lb D) m' ∧ nx = (D, oD') :: (lsE ent ++ post) ∧ DObj pw w oD' (kvE ent) ∧ BS (bs.take idx) ent ∧ ent.length ≤ idx ∧ (∀ p ∈ lsE ent, p.1 ≠ D) ∧ (∀ p ∈ post, p.1 ∉ ent.map (·.2.1)))
    hh hlb F N ⟨oD, [], m, rfl, rfl, hD, ⟨by simp, by simp, by simp, by simp [idxs]⟩, by simp, by simp [lsE], by simp⟩ ?_ ?_
  · rintro i x T' t m1 nx h tk e1' i1' oE oI hx ⟨oD', ent, m', rfl, rfl, hd', hb, hle, p1, p2⟩ hoff hT F1 N1
    have hi : i < bs.length := by
      have h1 := (List.getElem?_eq_some_iff.mp hx).1
      rw [hvb.length] at h1; exact h1
    obtain ⟨tx, hx2⟩ := hvb.get i bs[i] (by simp [hi])
    rw [hx] at hx2
    obtain rfl := Option.some.inj hx2
    have hpl : (bs.take i).length = i := by simp; omega
    refine has i t bs[i] tx T' { s with heap := h, toks := tk } _ _ _ hT F1 N1 fun h2 tk2 F2 N2 => ?_
    rw [over2] at F2
    have F3 : Fr g L h2 (over [(Str.ofString "elt", .int bs[i] tx), (Str.ofString "i", .int ((bs.take i).length : Int) t)] (over (cS M lb D) m')) := by rw [hpl]; exact F2
    have offp : ∀ p ∈ (e1', oE) :: (i1', oI) :: post, p.1 ≠ D ∧ p.1 ∉ ent.map (·.2.1) := fun p hp => by
      have q : ∀ a : Addr, (∀ p ∈ (D, oD') :: (lsE ent ++ post), p.1 ≠ a) → a ≠ D ∧ a ∉ ent.map (·.2.1) := fun a ha => by
        refine ⟨Ne.symm (ha (D, oD') (.head _)), fun q => ?_⟩
        obtain ⟨e, he, rfl⟩ := List.mem_map.mp q
        exact ha e.2 (.tail _ (List.mem_append_left _ (List.mem_map_of_mem he))) rfl
      rcases List.mem_cons.mp hp with rfl | hp
      · exact q _ fun p hp => (hoff p hp).1
      · rcases List.mem_cons.mp hp with rfl | hp
        · exact q _ fun p hp => (hoff p hp).2
        · exact ⟨o2 p hp, p2 p hp⟩
    refine chain_turn (s := { s with heap := h2, toks := tk2 }) (pre := bs.take i) (post := (e1', oE) :: (i1', oI) :: post) (t := t) X T hd' lo hb (by omega) (by omega) F3 (fun p hp => N2 p ?_) p1 offp ?_
    · simp only [List.mem_cons, List.mem_append] at hp ⊢
      rcases hp with h | h | h | h | h
      · exact .inr (.inr (.inl h))
      · exact .inr (.inr (.inr (.inl h)))
      · exact .inl h
      · exact .inr (.inl h)
      · exact .inr (.inr (.inr (.inr h)))
    · intro h3 tk3 oD3 ent3 m3 F4 N4 hd4 hb4 hl4 p3 p4
      refine ⟨h3, tk3, _, (D, oD3) :: (lsE ent3 ++ post), rfl, F4, fun p hp => N4 p ?_, ?_, oD3, ent3, m3, rfl, rfl, hd4, by rw [take_snoc hi]; exact hb4, by omega, p3, fun p hp => p4 p (.tail _ (.tail _ hp))⟩
      · simp only [List.cons_append, List.nil_append, List.mem_cons, List.mem_append] at hp ⊢
        rcases hp with h | h | h | h | h
        · exact .inr (.inr (.inl h))
        · exact .inr (.inr (.inr (.inl h)))
        · exact .inl h
        · exact .inr (.inl h)
        · exact .inr (.inr (.inr (.inr h)))
      · have c1 := p4 (e1', oE) (.head _)
        have c2 := p4 (i1', oI) (.tail _ (.head _))
        intro p hp q
        simp only [List.mem_cons, List.not_mem_nil, or_false] at q
        rcases List.mem_cons.mp hp with rfl | hp
        · rcases q with q | q
          · exact (hoff (D, oD') (.head _)).1 q
          · exact (hoff (D, oD') (.head _)).2 q
        · rcases List.mem_append.mp hp with hp | hp
          · rcases q with q | q
            · have z := mem_lsE hp; rw [q] at z; exact c1 z
            · have z := mem_lsE hp; rw [q] at z; exact c2 z
          · have z := hoff p (.tail _ (List.mem_append_right _ hp))
            rcases q with q | q
            · exact z.1 q
            · exact z.2 q
  · rintro m1 nx h tk ⟨oD', ent, m', rfl, rfl, hd', hb, hle, p1, p2⟩ F1 N1
    rw [hvb.length, List.take_length] at hb
    exact k h tk oD' ent m' F1 N1 hd' hb p1 p2
end Mine
end
theorem Mine.flush2 {M : PySem.Model} {A : PySem.Around} {env : PySem.Env} {E : PySem.Value → PySem.Shared → Prop} {Q : PySem.Flow → PySem.Shared → Prop} {s : PySem.Shared} (h : Q .next s) : PySem.wpAny M A (PySem.execs [] env) Q E s := by first | (walk1; exact h) | exact PySem.wpAny_execs_nil h
section
open PySem PySem.W PySem.Calls PyProof.Rows
set_option maxRecDepth 100000
namespace Mine
theorem dobj_of {w : World} {o : Obj} (hi : Obj.IsDictOf (intKind pw w) o []) : DObj pw w o [] := by
  have hg : ((default : Heap).push o).get? (default : Heap).objs.size = some o := by
    obtain ⟨es, ep, ⟨a1, a2, a3⟩, hd, _⟩ := hi
    exact Heap.get?_push_size _ (by obtain ⟨c, d, dt, sl⟩ := o; simp only at hd; subst hd; rfl)
  obtain ⟨o2, e2, d2⟩ := DObj.of (Heap.dictOf_iff.mpr ⟨_, hg, hi⟩)
  rw [hg] at e2; cases e2; exact d2
theorem news_front {g h : Heap} {L : Addr} {a b x : Addr × Obj} {ls : List (Addr × Obj)} (N : News g L h (x :: (ls ++ [a, b]))) : News g L h (a :: b :: (x :: ls)) := fun p hp => N p (by
  simp only [List.mem_cons, List.mem_append, List.not_mem_nil, or_false] at hp ⊢
  rcases hp with h | h | h | h <;> simp [h])
local macro_rules | `(tactic| k_all) => `(tactic| assumption)
noncomputable abbrev chD (P : Params) (t : Nat → Tok) (la lb vb2j vbj vbp : Value) : Obj :=
  dictOf [kE P "isjunk" (t 0) .none, kE P "a" (t 1) la, kE P "b" (t 2) lb, kE P "autojunk" (t 3) (.bool false), kE P "matching_blocks" (t 4) .none, kE P "opcodes" (t 5) .none, kE P "fullbcount" (t 6) .none, kE P "b2j" (t 7) vb2j, kE P "bjunk" (t 8) vbj, kE P "bpopular" (t 9) vbp] 10
noncomputable def CR : List Stmt := B188.drop 3
set_option maxHeartbeats 4000000 in
theorem chain_rest {w : World} {e1 e2 e3 : Env} {s : Shared} {g : Heap} {L M dM lb D : Addr} {m mg mb : Str → Option Value} {mean : ExcName → Option Value} {t : Nat → Tok} {vla vbj vbp : Value} {vb : List Value} {bs : List Int} {Q : Flow → Shared → Prop} {oD : Obj} {ls : List (Addr × Obj)}
    (X : (K w.params).In g) (T : Top qv (looseW qv loose) mean mg mb g)
    (hlb : g.IsList lb vb.toArray) (hvb : IntsAre vb bs) (hlen : bs.length < 100000) (o1 : @LT.lt Nat _ dM M) (o2 : dM ≠ D) (o3 : ∀ p ∈ ls, p.1 ≠ dM)
    (F : Fr g L s.heap (over (cS M lb D) m))
    (N : News g L s.heap ((M, instObj 242 dM) :: (dM, chD w.params t vla (.ref lb) (.ref D) vbj vbp) :: (D, oD) :: ls))
    (k : ∀ h' tk m' J P oJ oP, Fr g L h' m' → News g L h' ((P, oP) :: (J, oJ) :: (M, instObj 242 dM) :: (dM, chD w.params t vla (.ref lb) (.ref D) (.ref J) (.ref P)) :: (D, oD) :: ls) → Obj.SetObjOf (intKind pw w) oJ (fun _ => false) 0 → @LT.lt Nat _ M J → @LT.lt Nat _ M P → Q .next { s with heap := h', toks := tk }) :
    wpAny (model pw w) ((((callerA.deeper e1).deeper e2).deeper e3).deeper (envC L)) (execs CR (envC L)) Q (fun _ _ => False) s := by
  have o2' := neN o2
  have ral : (bs.length : Int) < 100000 := by omega
  conv in CR => whnf
  show wpAny _ _ (execs _ _) _ _ _
  repeat' (first | (first | (k_here; (with_reducible show wpAny _ _ (call (Value.builtin "len") _) _ _ _); k_dflt (refine len_base (by k_asm) (by k_asm) (by k_asm) (by k_asm) ?_); intro t') | (k_here; (with_reducible show wpAny _ _ (exec (Stmt.For (PySem.Expr.Tuple _ _ _) (PySem.Expr.Call _ _ _ _) _ _ _) _) _ _ _); (rename Fr _ _ _ _ => lF'); (with_unfolding_all refine For_turns lF' ?_)) | walk1) | (dsimp only; (first | (k_here; (with_reducible show wpAny _ _ (call (Value.builtin "len") _) _ _ _); k_dflt (refine len_base (by k_asm) (by k_asm) (by k_asm) (by k_asm) ?_); intro t') | (k_here; (with_reducible show wpAny _ _ (exec (Stmt.For (PySem.Expr.Tuple _ _ _) (PySem.Expr.Call _ _ _ _) _ _ _) _) _ _ _); (rename Fr _ _ _ _ => lF'); (with_unfolding_all refine For_turns lF' ?_)) | walk1)))
  rename Fr g L _ _ => F9
  rename News g L _ _ => N9
  have N10 := N9
  refine k _ _ _ _ _ _ _ F9 N10 (by assumption) (by omega) (by omega)
/-- the table of places and the set of junk, as they lie in the ledger -/
structure Tab (w : World) (tb : List (Addr × Obj)) (M dM D J : Addr) (bs : List Int) : Prop where
  off : ∀ p ∈ tb, p.1 ≠ M ∧ p.1 ≠ dM
  dn : (D == sysModules) = false
  d_ : ∃ oD ent, (D, oD) ∈ tb ∧ DObj pw w oD (kvE ent) ∧ BS bs ent ∧ ∀ p ∈ lsE ent, p ∈ tb
  j_ : ∃ oJ, (J, oJ) ∈ tb ∧ Obj.SetObjOf (intKind pw w) oJ (fun _ => false) 0
set_option maxHeartbeats 4000000 in
theorem chain_body {w : World} {e1 e2 e3 : Env} {s : Shared} {g : Heap} {L M dM lb : Addr} {mg mb : Str → Option Value} {mean : ExcName → Option Value} {t : Nat → Tok} {vla vb2j vbj vbp : Value} {vb : List Value} {bs : List Int} {Q : Flow → Shared → Prop}
    (X : (K w.params).In g) (T : Top qv (looseW qv loose) mean mg mb g)
    (hlb : g.IsList lb vb.toArray) (hvb : IntsAre vb bs) (hlen : bs.length < 100000) (o1 : @LT.lt Nat _ dM M)
    (F : Fr g L s.heap (fun y => List.lookup y [(Str.ofString "self", Value.ref M)].reverse))
    (N : News g L s.heap [(M, instObj 242 dM), (dM, chD w.params t vla (.ref lb) vb2j vbj vbp)])
    (k : ∀ h' tk m' D J P tb, Fr g L h' m' → News g L h' ((M, instObj 242 dM) :: (dM, chD w.params t vla (.ref lb) (.ref D) (.ref J) (.ref P)) :: tb) → Tab w tb M dM D J bs → Q .next { s with heap := h', toks := tk }) :
    wpAny (model pw w) ((((callerA.deeper e1).deeper e2).deeper e3).deeper (envC L)) (execs B188 (envC L)) Q (fun _ _ => False) s := by
  conv in B188 => whnf
  show wpAny _ _ (execs _ _) _ _ _
  iterate 22 (first | (first | (k_here; (with_reducible show wpAny _ _ (call (Value.builtin "len") _) _ _ _); k_dflt (refine len_base (by k_asm) (by k_asm) (by k_asm) (by k_asm) ?_); intro t') | (k_here; (with_reducible show wpAny _ _ (exec (Stmt.For (PySem.Expr.Tuple _ _ _) (PySem.Expr.Call _ _ _ _) _ _ _) _) _ _ _); (rename Fr _ _ _ _ => lF'); (with_unfolding_all refine For_turns lF' ?_)) | walk1) | (dsimp only; (first | (k_here; (with_reducible show wpAny _ _ (call (Value.builtin "len") _) _ _ _); k_dflt (refine len_base (by k_asm) (by k_asm) (by k_asm) (by k_asm) ?_); intro t') | (k_here; (with_reducible show wpAny _ _ (exec (Stmt.For (PySem.Expr.Tuple _ _ _) (PySem.Expr.Call _ _ _ _) _ _ _) _) _ _ _); (rename Fr _ _ _ _ => lF'); (with_unfolding_all refine For_turns lF' ?_)) | walk1)))
  rename Fr g L _ _ => F9
  rename News g L _ _ => N9
  rename Obj.IsDictOf (intKind pw w) _ [] => hi9
  rename (_ == sysModules) = false => lo9
  refine chain_loop rfl X T (dobj_of hi9) lo9 hlb hvb hlen (fr_over (S := cS M lb _) F9 (by repeat (first | exact List.forall_mem_nil _ | refine List.forall_mem_cons.mpr ⟨rfl, ?_⟩))) N9 ?_ ?_ ?_
  · k_all
  · intro h' tk oD' ent' m' F' N' hd hb p3 p4
    refine chain_rest (e1 := e1) (e2 := e2) (e3 := e3) (s := { s with heap := h', toks := tk }) (ls := lsE ent') (t := t) (vla := vla) (vbj := vbj) (vbp := vbp) X T hlb hvb hlen o1 (Ne.symm ?_) (fun p hp q => ?_) F' (news_front N') ?_
    · k_ne
    · exact p4 (dM, _) (.tail _ (.head _)) (by have := mem_lsE hp; rw [q] at this; exact this)
    · intro h2 tk2 m2 J P oJ oP F2 N2 hJ lJ lP
      refine k h2 tk2 m2 _ J P ((P, oP) :: (J, oJ) :: (_, oD') :: lsE ent') F2 (fun p hp => N2 p ?_) ⟨?_, lo9, ⟨oD', ent', .tail _ (.tail _ (.head _)), hd, hb, fun p hp => .tail _ (.tail _ (.tail _ hp))⟩, ⟨oJ, .tail _ (.head _), hJ⟩⟩
      · simp only [List.mem_cons] at hp ⊢
        rcases hp with h | h | h | h | h | h <;> simp [h]
      · intro p hp
        rcases List.mem_cons.mp hp with rfl | hp
        · exact ⟨by k_ne, by k_ne⟩
        · rcases List.mem_cons.mp hp with rfl | hp
          · exact ⟨by k_ne, by k_ne⟩
          · rcases List.mem_cons.mp hp with rfl | hp
            · exact ⟨by k_ne, by k_ne⟩
            · have z := mem_lsE hp
              exact ⟨fun q => p4 (M, _) (.head _) (q ▸ z), fun q => p4 (dM, _) (.tail _ (.head _)) (q ▸ z)⟩
  · intro i t x tx T s₀ mm nn Q' hT F1 N1 k1
    repeat' (first | (first | (k_here; (with_reducible show wpAny _ _ (call (Value.builtin "len") _) _ _ _); k_dflt (refine len_base (by k_asm) (by k_asm) (by k_asm) (by k_asm) ?_); intro t') | (k_here; (with_reducible show wpAny _ _ (exec (Stmt.For (PySem.Expr.Tuple _ _ _) (PySem.Expr.Call _ _ _ _) _ _ _) _) _ _ _); (rename Fr _ _ _ _ => lF'); (with_unfolding_all refine For_turns lF' ?_)) | walk1) | (dsimp only; (first | (k_here; (with_reducible show wpAny _ _ (call (Value.builtin "len") _) _ _ _); k_dflt (refine len_base (by k_asm) (by k_asm) (by k_asm) (by k_asm) ?_); intro t') | (k_here; (with_reducible show wpAny _ _ (exec (Stmt.For (PySem.Expr.Tuple _ _ _) (PySem.Expr.Call _ _ _ _) _ _ _) _) _ _ _); (rename Fr _ _ _ _ => lF'); (with_unfolding_all refine For_turns lF' ?_)) | walk1)))
    rename Fr g L _ _ => F2
    rename News g L _ _ => N2
    exact k1 _ _ F2 N2
end Mine
end
section
open PySem PySem.W PySem.Calls PyProof.Rows
set_option maxRecDepth 100000
namespace Mine
noncomputable abbrev sD (P : Params) (t : Nat → Tok) (va vb vmb vop vfb vb2j vbj vbp : Value) : Obj :=
  dictOf [kE P "isjunk" (t 0) .none, kE P "a" (t 1) va, kE P "b" (t 2) vb, kE P "autojunk" (t 3) (.bool false), kE P "matching_blocks" (t 4) vmb, kE P "opcodes" (t 5) vop, kE P "fullbcount" (t 6) vfb, kE P "b2j" (t 7) vb2j, kE P "bjunk" (t 8) vbj, kE P "bpopular" (t 9) vbp] 10
theorem is_base {M : Model} {A : Around} {E : Value → Shared → Prop} {s : Shared} {g : Heap} {L x y : Addr} {m : Str → Option Value} {vx vy : List Value} {Q : Value → Shared → Prop} (F : Fr g L s.heap m) (hx : g.IsList x vx.toArray) (hy : g.IsList y vy.toArray) (hxy : x ≠ y) (hq : Q (.bool false) s) :
    wpAny M A (compareOp .Is (.ref x) (.ref y)) Q E s := by
  obtain ⟨ox, h1, h2, _⟩ := hx
  obtain ⟨oy, h3, h4, _⟩ := hy
  exact kto_is (F.keep _ _ h1) (F.keep _ _ h3) hxy (by rw [h2]; decide) hq
set_option maxHeartbeats 2000000 in
theorem seq1_call {w : World} {A₀ : Around} {E : Value → Shared → Prop} {s : Shared} {base h₀ : Heap} {outer : List Env} {L a : Addr} {m mg mb : Str → Option Value} {cn : Str} {cs : Scope} {ccd : Value} {mean : ExcName → Option Value}
    {M dM la l0 : Addr} {t : Nat → Tok} {vb vmb vop vfb vb2j vbj vbp : Value} {x0 xa : List Value} {Q : Value → Shared → Prop}
    (X : (K w.params).In h₀) (T : Top qv (looseW qv loose) mean mg mb h₀) (B : Below A₀ base outer h₀)
    (F : Fr h₀ L s.heap m) (N : News h₀ L s.heap [(M, instObj 242 dM), (dM, sD w.params t (.ref l0) vb vmb vop vfb vb2j vbj vbp)])
    (hcs : cs.kind = .function) (hroom : A₀.depth < 900) (o1 : @LT.lt Nat _ dM M) (h0 : s.heap.IsList l0 x0.toArray) (ha : s.heap.IsList la xa.toArray) (hne : la ≠ l0) (d0 : l0 ≠ M ∧ l0 ≠ dM) (da : la ≠ M ∧ la ≠ dM)
    (k : ∀ h' tk, (∀ b o, b ≠ M → b ≠ dM → s.heap.get? b = some o → h'.get? b = some o) → Fr h₀ L h' m → News h₀ L h' [(M, instObj 242 dM), (dM, sD w.params t (.ref la) vb .none .none vfb vb2j vbj vbp)] → Q .none { s with heap := h', toks := tk }) :
    wpAny (model pw w) (A₀.deeper (envOf cn cs L a ccd)) (call (.ref 174) [.ref M, .ref la]) Q E s := by
  refine wpAny_call ?_
  refine code_defR (env := envOf cn cs L a ccd) (binds := [(Str.ofString "self", .ref M), (Str.ofString "a", .ref la)]) B F X N T (by show Option.map _ A₀.frames = _; rw [B.stack]; rfl) rfl hcs (by k_is) (by k_is) (by show A₀.depth + 1 < 1000; omega) (BindsTo.of_eq rfl) (locs rfl) ?_ rfl rfl rfl (by decide)
  intro g' L' h' FG' F' N' B' X' T' hg hlt
  have hg' : ∀ b, b ≠ M → b ≠ dM → ∀ o, s.heap.get? b = some o → g'.get? b = some o := fun b n1 n2 o e => hg b o e (by simp [n1, n2])
  have h0' := isList_to h0 (hg' _ d0.1 d0.2)
  have ha' := isList_to ha (hg' _ da.1 da.2)
  conv in B174 => whnf
  try dsimp only
  show wpAny _ _ (execs _ _) _ _ _
  k_fold
  repeat' (first | (k_unfold; (try dsimp only)) | (first | (k_here; (with_reducible show wpAny _ _ (compareOp CmpOp.Is (Value.ref _) (Value.ref _)) _ _ _); k_dflt (refine is_base (by k_asm) (by k_asm) (by k_asm) (by assumption) ?_)) | walk1) | (dsimp only; (first | (k_here; (with_reducible show wpAny _ _ (compareOp CmpOp.Is (Value.ref _) (Value.ref _)) _ _ _); k_dflt (refine is_base (by k_asm) (by k_asm) (by k_asm) (by assumption) ?_)) | walk1)))
  rename Fr g' L' _ _ => F8
  rename Fr h₀ L _ m => kF
  rename News h₀ L _ _ => kN
  exact k _ _ (fun b o n1 n2 e => F8.keep _ _ (hg' b n1 n2 o e)) kF kN
noncomputable abbrev envS2 (L : Addr) : Env := envOf (Str.ofString "SequenceMatcher.set_seq2") S181 L 181 (.ref 180)
set_option maxHeartbeats 2000000 in
theorem chain_call {w : World} {e1 e2 : Env} {E : Value → Shared → Prop} {s : Shared} {base h₀ : Heap} {outer : List Env} {L a : Addr} {m mg mb : Str → Option Value} {cn : Str} {cs : Scope} {ccd : Value} {mean : ExcName → Option Value}
    {M dM lb : Addr} {t : Nat → Tok} {vla vb2j vbj vbp : Value} {vb : List Value} {bs : List Int} {Q : Value → Shared → Prop}
    (X : (K w.params).In h₀) (T : Top qv (looseW qv loose) mean mg mb h₀) (B : Below ((callerA.deeper e1).deeper e2) base outer h₀)
    (F : Fr h₀ L s.heap m) (N : News h₀ L s.heap [(M, instObj 242 dM), (dM, chD w.params t vla (.ref lb) vb2j vbj vbp)])
    (hcs : cs.kind = .function) (o1 : @LT.lt Nat _ dM M) (hlb : h₀.IsList lb vb.toArray) (hvb : IntsAre vb bs) (hlen : bs.length < 100000)
    (k : ∀ h' tk D J P tb, (∀ b o, h₀.get? b = some o → h'.get? b = some o) → Fr h₀ L h' m → News h₀ L h' ((M, instObj 242 dM) :: (dM, chD w.params t vla (.ref lb) (.ref D) (.ref J) (.ref P)) :: tb) → Tab w tb M dM D J bs → Q .none { s with heap := h', toks := tk }) :
    wpAny (model pw w) (((callerA.deeper e1).deeper e2).deeper (envOf cn cs L a ccd)) (call (.ref 188) [.ref M]) Q E s := by
  refine wpAny_call ?_
  refine code_defR (env := envOf cn cs L a ccd) (binds := [(Str.ofString "self", .ref M)]) B F X N T (by show Option.map _ ((callerA.deeper e1).deeper e2).frames = _; rw [B.stack]; rfl) rfl hcs (by k_is) (by k_is) (by simp only [depth_deeper, depth_caller]; decide) (BindsTo.of_eq rfl) (locs rfl) ?_ rfl rfl rfl (by decide)
  intro g' L' h' FG' F' N' B' X' T' hg hlt
  refine wpAny_mono (chain_body (s := { s with heap := h', toks := _ }) X' T' (hlb.at fun o e => FG'.keep _ _ e) hvb hlen o1 F' N' (Q := fun fl s' => LeaveK h₀ L m g' (fun r s' => match r with | .ok (.ret v) => Q v s' | .ok _ => False | .error e => E e s') (match fl with | .ret v => v | _ => .none) s') ?_) (fun _ _ e => e) (fun _ _ e => e.elim)
  intro h2 tk m' D J P tb F2 N2 tab
  refine leaveK_ F2 N2 fun F5 N5 => ?_
  exact k h2 tk D J P tb (fun b o e => F5.keep _ _ e) F5 N5 tab
end Mine
end
section
open PySem PySem.W PySem.Calls PyProof.Rows
set_option maxRecDepth 100000
namespace Mine
set_option maxHeartbeats 2000000 in
theorem seq2_call {w : World} {e1 : Env} {E : Value → Shared → Prop} {s : Shared} {base h₀ : Heap} {outer : List Env} {L a : Addr} {m mg mb : Str → Option Value} {cn : Str} {cs : Scope} {ccd : Value} {mean : ExcName → Option Value}
    {M dM lb l0 : Addr} {t : Nat → Tok} {va vmb vop vfb vb2j vbj vbp : Value} {x0 xb : List Value} {bs : List Int} {Q : Value → Shared → Prop}
    (X : (K w.params).In h₀) (T : Top qv (looseW qv loose) mean mg mb h₀) (B : Below (callerA.deeper e1) base outer h₀)
    (F : Fr h₀ L s.heap m) (N : News h₀ L s.heap [(M, instObj 242 dM), (dM, sD w.params t va (.ref l0) vmb vop vfb vb2j vbj vbp)])
    (hcs : cs.kind = .function) (o1 : @LT.lt Nat _ dM M) (h0 : s.heap.IsList l0 x0.toArray) (ha : s.heap.IsList lb xb.toArray) (hvb : IntsAre xb bs) (hlen : bs.length < 100000) (hne : lb ≠ l0) (d0 : l0 ≠ M ∧ l0 ≠ dM) (da : lb ≠ M ∧ lb ≠ dM)
    (k : ∀ h' tk D J P tb, (∀ b o, b ≠ M → b ≠ dM → s.heap.get? b = some o → h'.get? b = some o) → Fr h₀ L h' m → News h₀ L h' ((M, instObj 242 dM) :: (dM, chD w.params t va (.ref lb) (.ref D) (.ref J) (.ref P)) :: tb) → Tab w tb M dM D J bs → Q .none { s with heap := h', toks := tk }) :
    wpAny (model pw w) ((callerA.deeper e1).deeper (envOf cn cs L a ccd)) (call (.ref 181) [.ref M, .ref lb]) Q E s := by
  refine wpAny_call ?_
  refine code_defR (env := envOf cn cs L a ccd) (binds := [(Str.ofString "self", .ref M), (Str.ofString "b", .ref lb)]) B F X N T (by show Option.map _ (callerA.deeper e1).frames = _; rw [B.stack]; rfl) rfl hcs (by k_is) (by k_is) (by simp only [depth_deeper, depth_caller]; decide) (BindsTo.of_eq rfl) (locs rfl) ?_ rfl rfl rfl (by decide)
  intro g' L' h' FG' F' N' B' X' T' hg hlt
  have hg' : ∀ b, b ≠ M → b ≠ dM → ∀ o, s.heap.get? b = some o → g'.get? b = some o := fun b n1 n2 o e => hg b o e (by simp [n1, n2])
  have h0' := isList_to h0 (hg' _ d0.1 d0.2)
  have ha' := isList_to ha (hg' _ da.1 da.2)
  conv in B181 => whnf
  try dsimp only
  show wpAny _ _ (execs _ _) _ _ _
  k_fold
  repeat' (first | (k_unfold; (try dsimp only)) | (first | (k_here; (with_reducible show wpAny _ _ (call (Value.ref 188) _) _ _ _); k_dflt (refine chain_call (by k_asm) (by k_asm) (by k_asm) (by k_asm) (by k_asm) (by exact rfl) (by assumption) (by assumption) (by assumption) (by assumption) ?_); intro h' tk' D' J' P' tb' kp' F' N' tab') | (k_here; (with_reducible show wpAny _ _ (compareOp CmpOp.Is (Value.ref _) (Value.ref _)) _ _ _); k_dflt (refine is_base (by k_asm) (by k_asm) (by k_asm) (by assumption) ?_)) | walk1) | (dsimp only; (first | (k_here; (with_reducible show wpAny _ _ (call (Value.ref 188) _) _ _ _); k_dflt (refine chain_call (by k_asm) (by k_asm) (by k_asm) (by k_asm) (by k_asm) (by exact rfl) (by assumption) (by assumption) (by assumption) (by assumption) ?_); intro h' tk' D' J' P' tb' kp' F' N' tab') | (k_here; (with_reducible show wpAny _ _ (compareOp CmpOp.Is (Value.ref _) (Value.ref _)) _ _ _); k_dflt (refine is_base (by k_asm) (by k_asm) (by k_asm) (by assumption) ?_)) | walk1)))
  rename Fr g' L' _ _ => F8
  rename Fr h₀ L _ m => kF
  rename News h₀ L _ _ => kN
  rename Tab _ _ _ _ _ _ _ => tab
  exact k _ _ _ _ _ _ (fun b o n1 n2 e => F8.keep _ _ (hg' b n1 n2 o e)) kF kN tab
end Mine
end
section
open PySem PySem.W PySem.Calls PyProof.Rows
set_option maxRecDepth 100000
namespace Mine
theorem news_join {g h : Heap} {L : Addr} {a b : Addr × Obj} {tb post : List (Addr × Obj)} (N1 : News g L h (a :: b :: tb)) (N2 : News g L h post) : News g L h (a :: b :: (tb ++ post)) := fun p hp => by
  simp only [List.mem_cons, List.mem_append] at hp
  rcases hp with h | h | h | h
  · exact N1 p (by simp [h])
  · exact N1 p (by simp [h])
  · exact N1 p (by simp [h])
  · exact N2 p h
theorem seq1B {w : World} {A₀ : Around} {E : Value → Shared → Prop} {s : Shared} {base h₀ : Heap} {outer : List Env} {L a : Addr} {m mg mb : Str → Option Value} {cn : Str} {cs : Scope} {ccd : Value} {mean : ExcName → Option Value}
    {M dM la l0 : Addr} {t : Nat → Tok} {vb vmb vop vfb vb2j vbj vbp : Value} {x0 xa : List Value} {Q : Value → Shared → Prop}
    (X : (K w.params).In h₀) (T : Top qv (looseW qv loose) mean mg mb h₀) (B : Below A₀ base outer h₀)
    (F : Fr h₀ L s.heap m) (N : News h₀ L s.heap [(M, instObj 242 dM), (dM, sD w.params t (.ref l0) vb vmb vop vfb vb2j vbj vbp)])
    (hcs : cs.kind = .function) (hroom : A₀.depth < 900) (o1 : @LT.lt Nat _ dM M) (h0 : h₀.IsList l0 x0.toArray) (ha : h₀.IsList la xa.toArray) (hne : la ≠ l0) (d0 : l0 ≠ M ∧ l0 ≠ dM) (da : la ≠ M ∧ la ≠ dM)
    (k : ∀ h' tk, Fr h₀ L h' m → News h₀ L h' [(M, instObj 242 dM), (dM, sD w.params t (.ref la) vb .none .none vfb vb2j vbj vbp)] → Q .none { s with heap := h', toks := tk }) :
    wpAny (model pw w) (A₀.deeper (envOf cn cs L a ccd)) (call (.ref 174) [.ref M, .ref la]) Q E s :=
  seq1_call X T B F N hcs hroom o1 (h0.at fun o e => F.keep _ _ e) (ha.at fun o e => F.keep _ _ e) hne d0 da fun h' tk _ F' N' => k h' tk F' N'
theorem seq2B {w : World} {e1 : Env} {E : Value → Shared → Prop} {s : Shared} {base h₀ : Heap} {outer : List Env} {L a : Addr} {m mg mb : Str → Option Value} {cn : Str} {cs : Scope} {ccd : Value} {mean : ExcName → Option Value}
    {M dM lb l0 : Addr} {t : Nat → Tok} {va vmb vop vfb vb2j vbj vbp : Value} {x0 xb : List Value} {bs : List Int} {Q : Value → Shared → Prop}
    (X : (K w.params).In h₀) (T : Top qv (looseW qv loose) mean mg mb h₀) (B : Below (callerA.deeper e1) base outer h₀)
    (F : Fr h₀ L s.heap m) (N : News h₀ L s.heap [(M, instObj 242 dM), (dM, sD w.params t va (.ref l0) vmb vop vfb vb2j vbj vbp)])
    (hcs : cs.kind = .function) (o1 : @LT.lt Nat _ dM M) (h0 : h₀.IsList l0 x0.toArray) (ha : h₀.IsList lb xb.toArray) (hvb : IntsAre xb bs) (hlen : bs.length < 100000) (hne : lb ≠ l0) (d0 : l0 ≠ M ∧ l0 ≠ dM) (da : lb ≠ M ∧ lb ≠ dM)
    (k : ∀ h' tk D J P tb, Fr h₀ L h' m → News h₀ L h' ((M, instObj 242 dM) :: (dM, chD w.params t va (.ref lb) (.ref D) (.ref J) (.ref P)) :: tb) → Tab w tb M dM D J bs → Q .none { s with heap := h', toks := tk }) :
    wpAny (model pw w) ((callerA.deeper e1).deeper (envOf cn cs L a ccd)) (call (.ref 181) [.ref M, .ref lb]) Q E s :=
  seq2_call X T B F N hcs o1 (h0.at fun o e => F.keep _ _ e) (ha.at fun o e => F.keep _ _ e) hvb hlen hne d0 da fun h' tk D J P tb _ F' N' tab => k h' tk D J P tb F' N' tab
set_option maxHeartbeats 2000000 in
theorem seqs_call {w : World} {E : Value → Shared → Prop} {s : Shared} {base h₀ : Heap} {outer : List Env} {L a : Addr} {m mg mb : Str → Option Value} {cn : Str} {cs : Scope} {ccd : Value} {mean : ExcName → Option Value} {post : List (Addr × Obj)}
    {M dM la lb la0 lb0 : Addr} {t : Nat → Tok} {vmb vop vfb vb2j vbj vbp : Value} {xa0 xb0 xa xb : List Value} {bs : List Int} {Q : Value → Shared → Prop}
    (X : (K w.params).In h₀) (T : Top qv (looseW qv loose) mean mg mb h₀) (B : Below callerA base outer h₀)
    (F : Fr h₀ L s.heap m) (N : News h₀ L s.heap ((M, instObj 242 dM) :: (dM, sD w.params t (.ref la0) (.ref lb0) vmb vop vfb vb2j vbj vbp) :: post))
    (hcs : cs.kind = .function) (o1 : @LT.lt Nat _ dM M) (ha0 : s.heap.IsList la0 xa0.toArray) (hb0 : s.heap.IsList lb0 xb0.toArray) (ha : s.heap.IsList la xa.toArray) (hb : s.heap.IsList lb xb.toArray) (hvb : IntsAre xb bs) (hlen : bs.length < 100000)
    (na : la ≠ la0) (nb : lb ≠ lb0) (d0 : la0 ≠ M ∧ la0 ≠ dM) (d1 : lb0 ≠ M ∧ lb0 ≠ dM) (d2 : la ≠ M ∧ la ≠ dM) (d3 : lb ≠ M ∧ lb ≠ dM) (hoff : ∀ p ∈ post, p.1 ≠ M ∧ p.1 ≠ dM)
    (k : ∀ h' tk D J P tb, Fr h₀ L h' m → News h₀ L h' ((M, instObj 242 dM) :: (dM, chD w.params t (.ref la) (.ref lb) (.ref D) (.ref J) (.ref P)) :: (tb ++ post)) → Tab w tb M dM D J bs → Q .none { s with heap := h', toks := tk }) :
    wpAny (model pw w) (callerA.deeper (envOf cn cs L a ccd)) (call (.ref 167) [.ref M, .ref la, .ref lb]) Q E s := by
  have N2 : News h₀ L s.heap [(M, instObj 242 dM), (dM, sD w.params t (.ref la0) (.ref lb0) vmb vop vfb vb2j vbj vbp)] := fun p hp => N p (by simp only [List.mem_cons, List.not_mem_nil, or_false] at hp ⊢; rcases hp with h | h <;> simp [h])
  refine wpAny_call ?_
  refine code_defR (env := envOf cn cs L a ccd) (binds := [(Str.ofString "self", .ref M), (Str.ofString "a", .ref la), (Str.ofString "b", .ref lb)]) B F X N2 T (by show Option.map _ callerA.frames = _; rw [B.stack]; rfl) rfl hcs (by k_is) (by k_is) (by simp only [depth_deeper, depth_caller]; decide) (BindsTo.of_eq rfl) (locs rfl) ?_ rfl rfl rfl (by decide)
  intro g' L' h' FG' F' N' B' X' T' hg hlt
  have hg' : ∀ b, b ≠ M → b ≠ dM → ∀ o, s.heap.get? b = some o → g'.get? b = some o := fun b n1 n2 o e => hg b o e (by simp [n1, n2])
  have ha0' := isList_to ha0 (hg' _ d0.1 d0.2)
  have hb0' := isList_to hb0 (hg' _ d1.1 d1.2)
  have ha' := isList_to ha (hg' _ d2.1 d2.2)
  have hb' := isList_to hb (hg' _ d3.1 d3.2)
  conv in B167 => whnf
  try dsimp only
  show wpAny _ _ (execs _ _) _ _ _
  k_fold
  repeat' (first | (k_unfold; (try dsimp only)) | (first | (k_here; (with_reducible show wpAny _ _ (call (Value.ref 181) _) _ _ _); k_dflt (refine seq2B (by k_asm) (by k_asm) (by k_asm) (by k_asm) (by k_asm) (by exact rfl) (by assumption) (by assumption) (by assumption) (by assumption) (by assumption) (by assumption) (by assumption) (by assumption) ?_); intro h' tk' D' J' P' tb' F' N' tab') | (k_here; (with_reducible show wpAny _ _ (call (Value.ref 174) _) _ _ _); k_dflt (refine seq1B (by k_asm) (by k_asm) (by k_asm) (by k_asm) (by k_asm) (by exact rfl) (by (simp only [depth_deeper, depth_caller]; decide)) (by assumption) (by assumption) (by assumption) (by assumption) (by assumption) (by assumption) ?_); intro h' tk' F' N') | walk1) | (dsimp only; (first | (k_here; (with_reducible show wpAny _ _ (call (Value.ref 181) _) _ _ _); k_dflt (refine seq2B (by k_asm) (by k_asm) (by k_asm) (by k_asm) (by k_asm) (by exact rfl) (by assumption) (by assumption) (by assumption) (by assumption) (by assumption) (by assumption) (by assumption) (by assumption) ?_); intro h' tk' D' J' P' tb' F' N' tab') | (k_here; (with_reducible show wpAny _ _ (call (Value.ref 174) _) _ _ _); k_dflt (refine seq1B (by k_asm) (by k_asm) (by k_asm) (by k_asm) (by k_asm) (by exact rfl) (by (simp only [depth_deeper, depth_caller]; decide)) (by assumption) (by assumption) (by assumption) (by assumption) (by assumption) (by assumption) ?_); intro h' tk' F' N') | walk1)))
  rename Fr g' L' _ _ => F8
  rename Fr h₀ L _ m => kF
  rename News h₀ L _ _ => kN
  rename Tab _ _ _ _ _ _ _ => tab
  exact k _ _ _ _ _ _ kF (news_join kN fun p hp => ⟨F8.keep _ _ (hg' p.1 (hoff p hp).1 (hoff p hp).2 p.2 (N p (.tail _ (.tail _ hp))).1), (N p (.tail _ (.tail _ hp))).2⟩) tab
end Mine
end
section
open PySem PySem.W PySem.Calls PyProof.Rows
set_option maxRecDepth 100000
namespace Mine
theorem Ready.base {w : World} {h g : Heap} {M dM : Addr} {t : Nat → Tok} {la lb : Addr} {vmb vop : Value} {D S1 : Addr} {vbp : Value} {as bs : List Int} (R : Ready w h M dM t la lb vmb vop D S1 vbp as bs) (hg : ∀ b, b ≠ M → b ≠ dM → ∀ o, h.get? b = some o → g.get? b = some o) : Ready w g M dM t la lb vmb vop D S1 vbp as bs := by
  obtain ⟨rne, roff, ⟨va, hla, hva⟩, ⟨vb, hlb, hvb⟩, ral, rbl, ⟨n, hS⟩, rdn, ⟨f, hD, hB⟩⟩ := R
  obtain ⟨o1, o2, o3, o4, o5, o6, o7, o8⟩ := id roff
  refine ⟨rne, roff, ⟨va, isList_to hla (hg _ o1 o2), hva⟩, ⟨vb, isList_to hlb (hg _ o3 o4), hvb⟩, ral, rbl, ⟨n, Heap.SetOf.to hS (hg _ o7 o8)⟩, rdn, ⟨f, Heap.MapOf.to hD (hg _ o5 o6), fun v => ?_⟩⟩
  rcases hB v with h | ⟨lv, vj, h1, n1, n2, h2, h3⟩
  · exact .inl h
  · exact .inr ⟨lv, vj, h1, n1, n2, isList_to h2 (hg _ n1 n2), h3⟩
end Mine
end
section
open PySem PySem.W PySem.Calls PyProof.Rows
set_option maxRecDepth 100000
namespace Mine
theorem mro_map : mroOf (.type "map") = pure [.type "map", .type "object"] := by rw [mroOf_type]; kernel_rfl
theorem lookup_map_new : typeLookup (.type "map") "__new__" = pure (some (.builtin "map.__new__")) := by rw [typeLookup_type, builtinLookup_eq_fast]; kernel_rfl
theorem slot_map_init : Slot "map" "__init__" "object.__init__" :=
  .of (owner := "object") (n := "__init__") (by rw [typeLookup_type, builtinLookup_eq_fast]; kernel_rfl) (by decide +kernel) (by decide +kernel) (by decide +kernel)
    (by first | exact .inl (by decide +kernel) | exact .inr (by decide +kernel)) (by rw [isSubtype_type]; kernel_rfl)
theorem called_map : TypeCalled "map" "map.__new__" "object.__init__" :=
  ⟨by decide +kernel, by decide +kernel, ⟨_, _, mro_map⟩, madeBy_type mro_map lookup_map_new (by decide +kernel), by decide +kernel, by rw [isSubtype_type]; kernel_rfl, slot_map_init⟩
theorem typeCall_map (a b : Value) : checkTypeCall "map" ⟨[a, b], []⟩ = pure () := by kernel_rfl
theorem newCall_map (a b : Value) : checkBuiltinCall "map.__new__" ⟨[.type "map", a, b], []⟩ = pure () := by kernel_rfl
theorem entry_map_new : entryFor table "map.__new__" = some Builtin.«map.__new__» := entryFor_of_tree (by kernel_rfl)
theorem entry_map_next : entryFor table "map.__next__" = some Builtin.«map.__next__» := entryFor_of_tree (by kernel_rfl)
theorem sub_map : isSubtype (.type "map") (.type "map") = pure true := by rw [isSubtype_type]; kernel_rfl
noncomputable abbrev liObj (l : Addr) (i : Nat) : Obj := { cls := .type "list_iterator", data := .fields #[.ref l, .int i 0] }
set_option maxHeartbeats 1000000 in
theorem meets_map_new (f : Value) (l : Addr) (vs : List Value) :
    Meets (Builtin.«map.__new__» ⟨[.type "map", f, .ref l], []⟩)
      (fun _ R s => s.heap.IsList l vs.toArray ∧ R (.ok (.ret (.ref (s.heap.objs.size + 2)))) { s with heap := ((s.heap.push (liObj l 0)).push { cls := .type "tuple", data := .seq #[.ref s.heap.objs.size] }).push { cls := .type "map", data := .fields #[.ref (s.heap.objs.size + 1), f] } }) :=
  .of_wp fun prog w A R s h => by
    obtain ⟨hp, g, d, tk, os⟩ := s; obtain ⟨ht, h⟩ := h
    dsimp only at ht h
    have ls : Looks (model prog w) hp (isSubtype (.type "map") (.type "map")) true := Looks.of_pure sub_map
    unfold Builtin.«map.__new__» Builtin.SmallTypes.newClass
    repeat (first | with_reducible refine wpAny_pyIter_list ht ?_ | with_reducible refine wpAny_newObj_type ?_ (by size_fits) | lk)
    refine ⟨_, rfl, ?_⟩
    simp only [Heap.size_push]
    exact h
theorem call_map {w : World} {A : Around} {E : Value → Shared → Prop} {s : Shared} {f : Value} {l : Addr} {vs : List Value} {Q : Value → Shared → Prop} (hl : s.heap.IsList l vs.toArray)
    (h : Q (.ref (s.heap.objs.size + 2)) { s with heap := ((s.heap.push (liObj l 0)).push { cls := .type "tuple", data := .seq #[.ref s.heap.objs.size] }).push { cls := .type "map", data := .fields #[.ref (s.heap.objs.size + 1), f] } }) :
    wpAny (model pw w) A (call (.type "map") [f, .ref l]) Q E s := by
  refine callType_new called_map (by decide) (typeCall_map _ _) (newCall_map _ _) (fun obj => ?_) entry_map_new (meets_map_new f l vs) ⟨hl, ⟨{ cls := .type "map", data := .fields #[.ref (s.heap.objs.size + 1), f] }, ?_, rfl⟩, h⟩
  · unfold argsOk; kernel_rfl
  · have := Heap.get?_push_size ((s.heap.push (liObj l 0)).push { cls := .type "tuple", data := .seq #[.ref s.heap.objs.size] }) (o := { cls := .type "map", data := .fields #[.ref (s.heap.objs.size + 1), f] }) rfl
    simpa only [Heap.size_push] using this
theorem len_match {w : World} {A : Around} {E : Value → Shared → Prop} {s : Shared} {x dx : Addr} {a b c : Value} {Q : Value → Shared → Prop} (X : (K w.params).In s.heap) (hx : s.heap.get? x = some (mObj dx a b c))
    (h : ∀ t tk, Q (.int 3 t) { s with toks := tk }) : wpAny (model pw w) A (call (.builtin "len") [.ref x]) Q E s := by
  refine call_function_entry kind_len plain_len entry_len (args_len1 _) ?_
  unfold Builtin.«len»
  refine wpAny_bind (m := oneArg "len" _) (wpAny_pure ?_)
  unfold callSpecial?
  refine wpAny_bind (wpAny_bind ((special_match X hx (find_len _)).here ?_))
  dsimp only
  rw [PySem.F.slot_tuple_len.bind]
  refine wpAny_holding (wpAny_bind (wpAny_pure (wpAny_bind ?_)))
  refine wpAny_call (codeAny_call_builtin PySem.F.slot_tuple_len.plain PySem.F.entry_tuple_len (@check_slot _ _ _ s "tuple.__len__" "tuple" "__len__" (.ref x) [] [] _ (by decide +kernel) (by decide +kernel) (inst_match X hx) (PySem.F.args_tuple_len_1 _) ?_))
  obtain ⟨hh, g, d, tk, os⟩ := s
  dsimp only at hx h X
  unfold Builtin.«tuple.__len__»
  repeat lk
  exact ⟨_, rfl, h _ _⟩
end Mine
end
section
open PySem PySem.W PySem.Calls PyProof.Rows
set_option maxRecDepth 100000
namespace Mine
theorem len_matchN {w : World} {A : Around} {E : Value → Shared → Prop} {s : Shared} {g : Heap} {L x dx : Addr} {m : Str → Option Value} {news : List (Addr × Obj)} {a b c : Value} {Q : Value → Shared → Prop} (F : Fr g L s.heap m) (X : (K w.params).In g) (N : News g L s.heap news) (hx : (x, mObj dx a b c) ∈ news)
    (h : ∀ t tk, Q (.int 3 t) { s with toks := tk }) : wpAny (model pw w) A (call (.builtin "len") [.ref x]) Q E s := len_match (X.keeps F.keep) (N _ hx).1 h
theorem tuple_newN {w : World} {A : Around} {E : Value → Shared → Prop} {s : Shared} {g : Heap} {L tp : Addr} {m : Str → Option Value} {news : List (Addr × Obj)} {a b c : Value} {Q : Value → Shared → Prop} (F : Fr g L s.heap m) (X : (K w.params).In g) (N : News g L s.heap news) (hx : (tp, ({ cls := .type "tuple", data := .seq #[a, b, c] } : Obj)) ∈ news)
    (h : ∀ x dx h', Fr g L h' m → News g L h' ((x, mObj dx a b c) :: news) → (∀ p ∈ news, p.1 < x) → Q (.ref x) { s with heap := h' }) : wpAny (model pw w) A (call (.builtin "tuple.__new__") [.ref 135, .ref tp]) Q E s := by
  obtain ⟨hh, gg, dd, tt, oo⟩ := s
  refine wpAny_call (tuple_new135 (X.keeps F.keep) (N _ hx).1 fun h2 hk => ?_)
  have F3 : Fr g L h2 m := ⟨F.ns.keeps hk, fun b o e => hk _ _ (F.keep b o e), F.above⟩
  have N3 : News g L h2 news := fun p hp => ⟨hk _ _ (N p hp).1, (N p hp).2⟩
  have F4 := (F3.push emptyDict).push (mObj h2.objs.size a b c)
  have N4 := (N3.push F3 emptyDict).push (F3.push _) (mObj h2.objs.size a b c)
  rw [Heap.size_push] at N4
  exact h _ h2.objs.size _ F4 (fun p hp => N4 p (by simp only [List.mem_cons] at hp ⊢; rcases hp with h | h <;> simp [h])) fun p hp => Nat.lt_succ_of_lt (Heap.lt_size (N3 p hp).1)
set_option maxHeartbeats 2000000 in
theorem make_code {w : World} {A₀ A : Around} {s : Shared} {base h₀ : Heap} {outer : List Env} {L : Addr} {env : Env} {m mg mb : Str → Option Value} {mean : ExcName → Option Value} {news : List (Addr × Obj)} {tp : Addr}
    {va vb vc : Value} {R : Result → Shared → Prop}
    (X : (K w.params).In h₀) (T : Top qv (looseW qv loose) mean mg mb h₀) (B : Below A₀ base outer h₀) (F : Fr h₀ L s.heap m) (N : News h₀ L s.heap ((tp, ({ cls := .type "tuple", data := .seq #[va, vb, vc] } : Obj)) :: news))
    (hA : A.frames = some (env :: outer)) (hf : env.frame = some L) (hke : env.scope.kind = .function) (hroom : A.depth < recursionLimit)
    (k : ∀ x dx h' tk, Fr h₀ L h' m → News h₀ L h' ((x, mObj dx va vb vc) :: (tp, ({ cls := .type "tuple", data := .seq #[va, vb, vc] } : Obj)) :: news) → (∀ p ∈ news, p.1 < x) → R (.ok (.ret (.ref x))) { s with heap := h', toks := tk }) :
    codeAny (model pw w) A (.call (.ref 89) ⟨[.ref 135, .ref tp], []⟩) R s := by
  refine code_def (env := env) (binds := [(Str.ofString "cls", .ref 135), (Str.ofString "iterable", .ref tp)]) B F X N T hA hf hke (by k_is) (by k_is) hroom (BindsTo.of_eq rfl) (locs rfl) ?_ rfl rfl rfl (by decide)
  intro g' L' h' FG' F' N' B' X' T'
  conv in B89 => whnf
  try dsimp only
  k_fold
  repeat' (first | (k_unfold; (try dsimp only)) | (first | (k_here; (with_reducible show wpAny _ _ (call (Value.builtin "tuple.__new__") _) _ _ _); k_dflt (refine tuple_newN (by k_asm) (by k_asm) (by k_asm) (by k_mem) ?_); intro x' dx' h' F' N' l1; (try k_lt l1); (try k_sweep)) | (k_here; (with_reducible show wpAny _ _ (call (Value.builtin "len") _) _ _ _); k_dflt (refine len_matchN (by k_asm) (by k_asm) (by k_asm) (by k_mem) ?_); intro t' tk') | (k_here; (with_reducible show wpAny _ _ (getMethod (Value.type "tuple") _ _) _ _ _); k_dflt (refine method_tn (by k_asm) (by k_asm) ?_)) | walk1) | (dsimp only; (first | (k_here; (with_reducible show wpAny _ _ (call (Value.builtin "tuple.__new__") _) _ _ _); k_dflt (refine tuple_newN (by k_asm) (by k_asm) (by k_asm) (by k_mem) ?_); intro x' dx' h' F' N' l1; (try k_lt l1); (try k_sweep)) | (k_here; (with_reducible show wpAny _ _ (call (Value.builtin "len") _) _ _ _); k_dflt (refine len_matchN (by k_asm) (by k_asm) (by k_asm) (by k_mem) ?_); intro t' tk') | (k_here; (with_reducible show wpAny _ _ (getMethod (Value.type "tuple") _ _) _ _ _); k_dflt (refine method_tn (by k_asm) (by k_asm) ?_)) | walk1)))
  rename Fr h₀ L _ m => kF
  rename News h₀ L _ _ => kN
  rename _ ∧ AllLt _ news => l1
  exact k _ _ _ _ kF kN (allLt_mem l1.2)
end Mine
end
section
open PySem PySem.W PySem.Calls PyProof.Rows
set_option maxRecDepth 100000
namespace Mine
theorem slot_map_next : Slot "map" "__next__" "map.__next__" :=
  .of (owner := "map") (n := "__next__") (by rw [typeLookup_type, builtinLookup_eq_fast]; kernel_rfl) (by decide +kernel) (by decide +kernel) (by decide +kernel)
    (by first | exact .inl (by decide +kernel) | exact .inr (by decide +kernel)) (by rw [isSubtype_type]; kernel_rfl)
theorem args_map_next (a : Value) : argsOk "map.__next__" ⟨[a], []⟩ := by unfold argsOk; kernel_rfl
noncomputable abbrev mapObj (tt : Addr) (f : Value) : Obj := { cls := .type "map", data := .fields #[.ref tt, f] }
noncomputable abbrev tup1 (a : Value) : Obj := { cls := .type "tuple", data := .seq #[a] }
noncomputable abbrev tup3 (a b c : Value) : Obj := { cls := .type "tuple", data := .seq #[a, b, c] }
section
variable {prog : Program} {w : World} {A : Around} {E : Value → Shared → Prop} {s : Shared} {it l : Addr}
open Builtin.SmallTypes in
theorem nextOf_item {i : Nat} {ol : Obj} {items : Array Value} {n : Nat} {v : Value} {Q : Value → Shared → Prop} (hit : s.heap.get? it = some (liObj l i)) (hl : s.heap.get? l = some ol) (hd : ol.data = .seq items n) (hv : items[i]? = some v)
    (hQ : ∀ h', h'.get? it = some (liObj l (i + 1)) → Heap.SameBut it s.heap h' → Q v { s with heap := h' }) : wpAny (model prog w) A (nextOf (.ref it)) Q E s := by
  unfold nextOf
  have hT : s.TypeIs (.ref it) "list_iterator" := ⟨_, hit, rfl⟩
  refine wpAny_bind (wpAny_callSpecial?_slot (name := Str.ofString "__next__") hT slot_listiter_next (wpAny_call_entry slot_listiter_next hT entry_listiter_next ?_ (args_listiter_next _)))
  show wpAny _ _ (field (.ref it) 0 >>= _) _ _ s
  refine wpAny_bind (wpAny_field hit rfl (x := .ref l) rfl ?_)
  rw [if_neg (show ¬ ((Value.ref l == Value.none) = true) from Bool.false_ne_true)]
  show wpAny _ _ (field (.ref it) 1 >>= _) _ _ s
  refine wpAny_bind (wpAny_field hit rfl (x := .int i 0) rfl ?_)
  show wpAny _ _ (seqItems? (.ref l) >>= _) _ _ s
  refine wpAny_bind (wpAny_seqItems hl hd ?_)
  simp only [Int.toNat_natCast, hv]
  refine wpAny_bind (wpAny_setField hit rfl (by simp) (wpAny_pure ⟨v, rfl, wpAny_pure (hQ _ ?_ (Heap.SameBut.update ..))⟩))
  have := Heap.get?_update_self (Obj.mapFields fun fs => fs.set! 1 (rawInt (i + 1))) hit rfl
  simpa [Obj.mapFields, rawInt, liObj] using this
open Builtin.SmallTypes in
theorem map_next_item {A₀ : Around} {base h₀ : Heap} {outer : List Env} {L : Addr} {env : Env} {m mg mb : Str → Option Value} {mean : ExcName → Option Value} {rest : List (Addr × Obj)} {li mp tt q tp : Addr} {i n : Nat} {items : Array Value} {va vb vc : Value} {Q : Option Value → Shared → Prop}
    (X : (K w.params).In h₀) (T : Top qv (looseW qv loose) mean mg mb h₀) (B : Below A₀ base outer h₀) (hA : A.frames = some (env :: outer)) (hf : env.frame = some L) (hke : env.scope.kind = .function) (hroom : A.depth < recursionLimit)
    (F : Fr h₀ L s.heap m) (N : News h₀ L s.heap ((li, liObj l i) :: rest)) (hoff : ∀ p ∈ rest, p.1 ≠ li)
    (h1 : (mp, mapObj tt (.ref q)) ∈ rest) (h2 : (tt, tup1 (.ref li)) ∈ rest) (h3 : (q, methodObj (.ref 89) (.ref 135)) ∈ rest) (h4 : (l, listOf items n) ∈ rest) (h5 : (tp, tup3 va vb vc) ∈ rest) (hv : items[i]? = some (.ref tp))
    (k : ∀ x dx h' tk, Fr h₀ L h' m → News h₀ L h' ((x, mObj dx va vb vc) :: (li, liObj l (i + 1)) :: rest) → (∀ p ∈ rest, p.1 < x) → li < x → Q (some (.ref x)) { s with heap := h', toks := tk }) :
    wpAny (model pw w) A (pyNext (.ref mp)) Q E s := by
  have hm : s.heap.get? mp = some (mapObj tt (.ref q)) := (N _ (.tail _ h1)).1
  have ht : s.heap.get? tt = some (tup1 (.ref li)) := (N _ (.tail _ h2)).1
  have hl : s.heap.get? l = some (listOf items n) := (N _ (.tail _ h4)).1
  have hli : s.heap.get? li = some (liObj l i) := (N _ (.head _)).1
  have hT : s.TypeIs (.ref mp) "map" := ⟨_, hm, rfl⟩
  unfold pyNext
  refine wpAny_bind (wpAny_attempt (wpAny_callSpecial?_slot (name := Str.ofString "__next__") hT slot_map_next (wpAny_call_entry slot_map_next hT entry_map_next ?_ (args_map_next _))))
  show wpAny _ _ (field (.ref mp) 0 >>= _) _ _ s
  refine wpAny_bind (wpAny_field hm rfl (x := .ref tt) rfl ?_)
  refine wpAny_bind (wpAny_seqItems ht rfl ?_)
  dsimp only
  rw [← Array.forIn_toList]
  refine wpAny_bind ?_
  show wpAny _ _ (forIn [Value.ref li] _ _) _ _ _
  rw [List.forIn_cons]
  refine wpAny_bind (wpAny_bind (wpAny_holding (nextOf_item hli hl rfl hv fun h1' hli' hs => wpAny_pure ?_)))
  dsimp only
  rw [List.forIn_nil]
  refine wpAny_pure ?_
  have z := N (li, liObj l i) (.head _)
  have F1 : Fr h₀ L h1' m := F.change hs z.2.1 z.2.2
  have N1 : News h₀ L h1' ((tp, tup3 va vb vc) :: (li, liObj l (i + 1)) :: rest) := by
    have N1' : News h₀ L h1' ((li, liObj l (i + 1)) :: rest) := fun p hp => by
      rcases List.mem_cons.mp hp with rfl | hp
      · exact ⟨hli', z.2⟩
      · exact ⟨(hs.2 p.1 (hoff p hp)).trans (N p (.tail _ hp)).1, (N p (.tail _ hp)).2⟩
    intro p hp
    rcases List.mem_cons.mp hp with rfl | hp
    · exact N1' _ (.tail _ h5)
    · exact N1' p hp
  have hm1 : h1'.get? mp = some (mapObj tt (.ref q)) := (N1 _ (.tail _ (.tail _ h1))).1
  refine wpAny_bind (wpAny_field (s := { s with heap := h1' }) hm1 rfl (x := .ref q) rfl ?_)
  refine wpAny_bind (wpAny_holding (wpAny_call ?_))
  refine method_call (N1 _ (.tail _ (.tail _ h3))).1 ?_
  refine make_code (s := { s with heap := h1' }) X T B F1 N1 hA hf hke (by rw [depth_in1]; exact hroom) ?_
  intro x dx h' tk F2 N2 hlt
  refine wpAny_bind (wpAny_letGo (wpAny_pure ⟨_, rfl, wpAny_pure ?_⟩))
  refine k x dx h' tk F2 (fun p hp => N2 p ?_) (fun p hp => hlt p (.tail _ hp)) (hlt _ (.head _))
  simp only [List.mem_cons] at hp ⊢
  rcases hp with h | h | h <;> simp [h]
open Builtin.SmallTypes in
theorem map_next_end {mp tt q li : Addr} {i n : Nat} {items : Array Value} {Q : Option Value → Shared → Prop} (hh : A.handled = none)
    (hm : s.heap.get? mp = some (mapObj tt (.ref q))) (ht : s.heap.get? tt = some (tup1 (.ref li))) (hli : s.heap.get? li = some (liObj l i)) (hl : s.heap.get? l = some (listOf items n)) (hv : items[i]? = none)
    (k : ∀ h', Heap.ExtBut li s.heap h' → Q none { s with heap := h' }) :
    wpAny (model prog w) A (pyNext (.ref mp)) Q E s := by
  have hT : s.TypeIs (.ref mp) "map" := ⟨_, hm, rfl⟩
  have hT2 : s.TypeIs (.ref li) "list_iterator" := ⟨_, hli, rfl⟩
  unfold pyNext
  refine wpAny_bind (wpAny_attempt (wpAny_callSpecial?_slot (name := Str.ofString "__next__") hT slot_map_next (wpAny_call_entry slot_map_next hT entry_map_next ?_ (args_map_next _))))
  show wpAny _ _ (field (.ref mp) 0 >>= _) _ _ s
  refine wpAny_bind (wpAny_field hm rfl (x := .ref tt) rfl ?_)
  refine wpAny_bind (wpAny_seqItems ht rfl ?_)
  dsimp only
  rw [← Array.forIn_toList]
  refine wpAny_bind ?_
  show wpAny _ _ (forIn [Value.ref li] _ _) _ _ _
  rw [List.forIn_cons]
  refine wpAny_bind (wpAny_bind (wpAny_holding ?_))
  unfold nextOf
  refine wpAny_bind (wpAny_callSpecial?_slot (name := Str.ofString "__next__") hT2 slot_listiter_next (wpAny_call_entry slot_listiter_next hT2 entry_listiter_next ?_ (args_listiter_next _)))
  show wpAny _ _ (field (.ref li) 0 >>= _) _ _ s
  refine wpAny_bind (wpAny_field hli rfl (x := .ref l) rfl ?_)
  rw [if_neg (show ¬ ((Value.ref l == Value.none) = true) from Bool.false_ne_true)]
  show wpAny _ _ (field (.ref li) 1 >>= _) _ _ s
  refine wpAny_bind (wpAny_field hli rfl (x := .int i 0) rfl ?_)
  show wpAny _ _ (seqItems? (.ref l) >>= _) _ _ s
  refine wpAny_bind (wpAny_seqItems hl rfl ?_)
  simp only [Int.toNat_natCast, hv]
  refine wpAny_bind (wpAny_rule (wpAny_bind (wpAny_setField hli rfl (by simp) ?_)))
  show wpAny _ _ (newExc (.type "StopIteration") [] >>= _) _ _ _
  refine wpAny_bind ?_
  simp only [newExc, newTuple]
  refine wpAny_bind (wpAny_newObj_type ?_ (by size_fits))
  refine wpAny_bind (m := firstArgMember _ _) (wpAny_of_eq (a := Value.none) (by first | rfl | (simp only [firstArgMember]; rfl)) ?_)
  refine wpAny_newObj_type ?_ (by size_fits)
  simp only [raiseNew]
  refine wpAny_bind (wpAny_handled ?_)
  rw [show A.in1.in1.handled = none from hh]
  refine wpAny_bind (wpAny_pure (wpAny_throw ?_))
  refine wpAny_bind (wpAny_isInstance (T := "StopIteration") (b := true) ⟨_, Heap.get?_push_size _ rfl, rfl⟩ isSubtype_stop ?_)
  exact wpAny_pure (k _ (((Heap.SameBut.update ..).extBut.push _).push _))
end
end Mine
end
section
open PySem PySem.W PySem.Calls PyProof.Rows
set_option maxRecDepth 100000
namespace Mine
set_option maxHeartbeats 2000000 in
/-- get_matching_blocks where its answer lies in the matcher -/
theorem gmb_cached {w : World} {A₀ : Around} {E : Value → Shared → Prop} {s : Shared} {base h₀ : Heap} {outer : List Env} {L a : Addr} {m mg mb : Str → Option Value} {cn : Str} {cs : Scope} {ccd : Value} {mean : ExcName → Option Value} {rest : List (Addr × Obj)}
    {M dM la lb D S1 S : Addr} {t : Nat → Tok} {vop vbp : Value} {Q : Value → Shared → Prop}
    (X : (K w.params).In h₀) (T : Top qv (looseW qv loose) mean mg mb h₀) (B : Below A₀ base outer h₀)
    (F : Fr h₀ L s.heap m) (N : News h₀ L s.heap rest) (hM : (M, instObj 242 dM) ∈ rest) (hdM : (dM, flmD w.params t la lb (.ref S) vop D S1 vbp) ∈ rest)
    (hcs : cs.kind = .function) (hroom : A₀.depth < 900)
    (k : ∀ h' tk, Fr h₀ L h' m → News h₀ L h' rest → Q (.ref S) { s with heap := h', toks := tk }) :
    wpAny (model pw w) (A₀.deeper (envOf cn cs L a ccd)) (call (.ref 203) [.ref M]) Q E s := by
  have N2 : News h₀ L s.heap ((M, instObj 242 dM) :: (dM, flmD w.params t la lb (.ref S) vop D S1 vbp) :: rest) := fun p hp => by
    rcases List.mem_cons.mp hp with rfl | hp
    · exact N _ hM
    · rcases List.mem_cons.mp hp with rfl | hp
      · exact N _ hdM
      · exact N p hp
  refine wpAny_call ?_
  refine code_def (env := envOf cn cs L a ccd) (binds := [(Str.ofString "self", .ref M)]) B F X N2 T (by show Option.map _ A₀.frames = _; rw [B.stack]; rfl) rfl hcs (by k_is) (by k_is) (by show A₀.depth + 1 < 1000; omega) (BindsTo.of_eq rfl) (locs rfl) ?_ rfl rfl rfl (by decide)
  intro g' L' h' FG' F' N' B' X' T'
  conv in B203 => whnf
  try dsimp only
  k_fold
  repeat' (first | (k_unfold; (try dsimp only)) | walk1 | (dsimp only; walk1))
  rename Fr h₀ L _ m => kF
  rename News h₀ L _ _ => kN
  exact k _ _ kF (fun p hp => kN p (.tail _ (.tail _ hp)))
end Mine
end
section
open PySem PySem.W PySem.Calls PyProof.Rows
set_option maxRecDepth 100000
namespace Mine
theorem wp_app {M : Model} {Γ : Ctx} {env : Env} {E : Value → Shared → Prop} {b : List Stmt} {Q : Flow → Shared → Prop} : ∀ {a : List Stmt} {p : Pos} {s : Shared},
    Sem.wp M Γ (execs a env) (fun f p' s' => match f with | .next => Sem.wp M Γ (execs b env) (fun f _ s'' => Q f s'') (fun e _ s'' => E e s'') p' s' | f => Q f s') (fun e _ s' => E e s') p s →
    Sem.wp M Γ (execs (a ++ b) env) (fun f _ s' => Q f s') (fun e _ s' => E e s') p s
  | [], _, _, h => h
  | st :: a, p, s, h => by
    rw [execs_cons, Sem.wp_bind'] at h
    rw [List.cons_append, execs_cons, Sem.wp_bind']
    refine Sem.wp_mono M Γ _ (fun f p' s' h' => ?_) (fun _ _ _ h' => h') _ _ h
    cases f with
    | next => exact wp_app h'
    | cont => exact h'
    | brk => exact h'
    | ret v => exact h'
theorem execs_app {M : Model} {A : Around} {env : Env} {E : Value → Shared → Prop} {a b : List Stmt} {Q : Flow → Shared → Prop} {s : Shared}
    (h : wpAny M A (execs a env) (fun f s' => match f with | .next => wpAny M A (execs b env) Q E s' | f => Q f s') E s) : wpAny M A (execs (a ++ b) env) Q E s := fun Γ p hΓ => by
  refine wp_app (Sem.wp_mono M Γ _ (fun f p' s' h' => ?_) (fun _ _ _ h' => h') _ _ (h Γ p hΓ))
  cases f <;> first | exact h' Γ p' hΓ | exact h'
theorem news_sub {g h : Heap} {L : Addr} {a b : List (Addr × Obj)} (N : News g L h a) (hs : ∀ p ∈ b, p ∈ a) : News g L h b := fun p hp => N p (hs p hp)
theorem ne_cls {h₀ h : Heap} {L a b : Addr} {oa ob : Obj} {news : List (Addr × Obj)} (N : News h₀ L h news) (ha : (a, oa) ∈ news) (hb : (b, ob) ∈ news) (hc : oa.cls ≠ ob.cls) : a ≠ b := fun e => by
  have x := (N _ ha).1
  have y := (N _ hb).1
  simp only at x y
  rw [e, y] at x
  cases x; exact hc rfl
theorem mem_front {α : Type} {x p : α} {pre post : List α} (h : p ∈ x :: (pre ++ post)) : p ∈ pre ++ x :: post := by
  simp only [List.mem_cons, List.mem_append] at h ⊢
  rcases h with h | h | h <;> simp [h]
end Mine
end
theorem Mine.flush3 {M : PySem.Model} {A : PySem.Around} {env : PySem.Env} {E : PySem.Value → PySem.Shared → Prop} {Q : PySem.Flow → PySem.Shared → Prop} {s : PySem.Shared} (h : Q .next s) : PySem.wpAny M A (PySem.execs [] env) Q E s := by first | (walk1; exact h) | exact PySem.wpAny_execs_nil h
section
open PySem PySem.W PySem.Calls PyProof.Rows
set_option maxRecDepth 100000
namespace Mine
noncomputable abbrev envO (L : Addr) : Env := envOf (Str.ofString "SequenceMatcher.get_opcodes") S210 L 210 (.ref 209)
/-- an opcode's tuple -/
noncomputable def Op (o : Obj) (tag : String) (a b c d : Int) : Prop := ∃ t0 t1 t2 t3 t4, o = { cls := .type "tuple", data := .seq #[.str (Str.ofString tag) t0, .int a t1, .int b t2, .int c t3, .int d t4] }
noncomputable def OTurn : List Stmt := forBody (nth B210 4)
local macro_rules | `(tactic| k_all) => `(tactic| assumption)
/-- the names ahead of a turn, and behind it -/
noncomputable abbrev oI (l : Addr) (a b c i j : Value) : List (Str × Value) := [(Str.ofString "answer", .ref l), (Str.ofString "ai", a), (Str.ofString "bj", b), (Str.ofString "size", c), (Str.ofString "i", i), (Str.ofString "j", j)]
noncomputable abbrev oO (l : Addr) (i j : Value) : List (Str × Value) := [(Str.ofString "answer", .ref l), (Str.ofString "i", i), (Str.ofString "j", j)]
theorem pk_2 {g h : Heap} {L : Addr} {a b c d : Addr × Obj} {rest : List (Addr × Obj)} (N : News g L h (a :: b :: c :: d :: rest)) : News g L h (d :: c :: a :: rest) := news_sub N fun p hp => by
  simp only [List.mem_cons] at hp ⊢
  rcases hp with h | h | h | h <;> simp [h]
theorem pk_E {g h : Heap} {L : Addr} {a b c : Addr × Obj} {rest : List (Addr × Obj)} (N : News g L h (a :: b :: c :: rest)) : News g L h (c :: a :: rest) := news_sub N fun p hp => by
  simp only [List.mem_cons] at hp ⊢
  rcases hp with h | h | h <;> simp [h]
theorem pk_0 {g h : Heap} {L : Addr} {a b c : Addr × Obj} {rest : List (Addr × Obj)} (N : News g L h (a :: b :: c :: rest)) : News g L h (c :: b :: rest) := news_sub N fun p hp => by
  simp only [List.mem_cons] at hp ⊢
  rcases hp with h | h | h <;> simp [h]
set_option maxHeartbeats 4000000 in
theorem turn_E {w : World} {e1 : Env} {s : Shared} {g : Heap} {L l : Addr} {m mg mb : Str → Option Value} {mean : ExcName → Option Value} {Q : Flow → Shared → Prop} {n : Nat} {arr : Array Value} {rest : List (Addr × Obj)}
    {a b c i j : Int} {ta tb tc ti tj : Tok}
    (X : (K w.params).In g) (T : Top qv (looseW qv loose) mean mg mb g)
    (F : Fr g L s.heap (over (oI l (.int a ta) (.int b tb) (.int c tc) (.int i ti) (.int j tj)) m))
    (N : News g L s.heap ((l, listOf arr n) :: rest)) (hrest : ∀ p ∈ rest, p.1 ≠ l) (hsz : arr.size ≤ 100) (q0 : a ≤ i) (q1 : b ≤ j) (q2 : 0 < c)
    (k : ∀ y0 o0 n' h' tk m' u v, Fr g L h' (over (oO l (.int (a + c) u) (.int (b + c) v)) m') → News g L h' ((l, listOf (arr.push (.ref y0)) n') :: (y0, o0) :: rest) → Op o0 "equal" a (a + c) b (b + c) → @Ne Nat y0 l → Q .next { s with heap := h', toks := tk }) :
    wpAny (model pw w) ((callerA.deeper e1).deeper (envO L)) (execs OTurn (envO L)) Q (fun _ _ => False) s := by
  conv in OTurn => whnf
  show wpAny _ _ (execs _ _) _ _ _
  obtain ⟨hp, gn, dr, tk, os⟩ := s
  dsimp only at F N k
  repeat' (first | ((with_reducible show wpAny _ _ (execs _ _) _ _ _); exfalso; omega) | (walk1; all_goals (try dsimp only); all_goals (try ((with_reducible refine wp_tok ?_); intro tk))) | (dsimp only; walk1))
  rename Fr g L _ _ => F9
  rename News g L _ _ => N9
  have N10 := pk_E N9
  exact k _ _ _ _ _ _ _ _ (fr_over (S := oO l (.int (a + c) _) (.int (b + c) _)) F9 (by repeat (first | exact List.forall_mem_nil _ | refine List.forall_mem_cons.mpr ⟨rfl, ?_⟩))) N10 ⟨_, _, _, _, _, rfl⟩ (ne_cls N10 (.tail _ (.head _)) (.head _) (fun e => absurd (Value.type.inj e) (by decide)))
/-- the same over any ledger -/
theorem turn_EU {w : World} {e1 : Env} {s : Shared} {g : Heap} {L l : Addr} {m mg mb : Str → Option Value} {mean : ExcName → Option Value} {Q : Flow → Shared → Prop} {n : Nat} {arr : Array Value} {news : List (Addr × Obj)} {gg : Obj → List (Addr × Obj)}
    {a b c i j : Int} {ta tb tc ti tj : Tok}
    (X : (K w.params).In g) (T : Top qv (looseW qv loose) mean mg mb g)
    (F : Fr g L s.heap (over (oI l (.int a ta) (.int b tb) (.int c tc) (.int i ti) (.int j tj)) m))
    (N : News g L s.heap news) (U : UpdF l (listOf arr n) news gg) (hsz : arr.size ≤ 100) (q0 : a ≤ i) (q1 : b ≤ j) (q2 : 0 < c)
    (k : ∀ y0 o0 n' h' tk m' u v, Fr g L h' (over (oO l (.int (a + c) u) (.int (b + c) v)) m') → News g L h' ((y0, o0) :: gg (listOf (arr.push (.ref y0)) n')) → Op o0 "equal" a (a + c) b (b + c) → @Ne Nat y0 l → Q .next { s with heap := h', toks := tk }) :
    wpAny (model pw w) ((callerA.deeper e1).deeper (envO L)) (execs OTurn (envO L)) Q (fun _ _ => False) s := by
  obtain ⟨pre, post, rfl, hg, x1, x2⟩ := U.split
  refine turn_E (rest := pre ++ post) X T F (news_sub N (fun p hp => mem_front hp)) (fun p hp => (List.mem_append.mp hp).elim (x1 p) (x2 p)) hsz q0 q1 q2 ?_
  intro y0 o0 n' h' tk m' u v F' N' po0 ne0
  refine k y0 o0 n' h' tk m' u v F' ?_ po0 ne0
  rw [hg]
  exact news_sub N' fun p hp => by
    simp only [List.mem_cons, List.mem_append] at hp ⊢
    rcases hp with h | h | h | h <;> simp [h]
set_option maxHeartbeats 4000000 in
theorem turn_RE {w : World} {e1 : Env} {s : Shared} {g : Heap} {L l : Addr} {m mg mb : Str → Option Value} {mean : ExcName → Option Value} {Q : Flow → Shared → Prop} {n : Nat} {arr : Array Value} {rest : List (Addr × Obj)}
    {a b c i j : Int} {ta tb tc ti tj : Tok}
    (X : (K w.params).In g) (T : Top qv (looseW qv loose) mean mg mb g)
    (F : Fr g L s.heap (over (oI l (.int a ta) (.int b tb) (.int c tc) (.int i ti) (.int j tj)) m))
    (N : News g L s.heap ((l, listOf arr n) :: rest)) (hrest : ∀ p ∈ rest, p.1 ≠ l) (hsz : arr.size ≤ 100) (q0 : i < a) (q1 : j < b) (q2 : 0 < c)
    (k : ∀ y0 y1 o0 o1 n' h' tk m' u v, Fr g L h' (over (oO l (.int (a + c) u) (.int (b + c) v)) m') → News g L h' ((l, listOf ((arr.push (.ref y0)).push (.ref y1)) n') :: (y0, o0) :: (y1, o1) :: rest) → Op o0 "replace" i a j b → Op o1 "equal" a (a + c) b (b + c) → @Ne Nat y0 l → @Ne Nat y1 l → Q .next { s with heap := h', toks := tk }) :
    wpAny (model pw w) ((callerA.deeper e1).deeper (envO L)) (execs OTurn (envO L)) Q (fun _ _ => False) s := by
  conv in OTurn => whnf
  show wpAny _ _ (execs _ _) _ _ _
  obtain ⟨hp, gn, dr, tk, os⟩ := s
  dsimp only at F N k
  repeat' (first | ((with_reducible show wpAny _ _ (execs _ _) _ _ _); exfalso; omega) | (walk1; all_goals (try dsimp only); all_goals (try ((with_reducible refine wp_tok ?_); intro tk))) | (dsimp only; walk1))
  rename Fr g L _ _ => F9
  rename News g L _ _ => N9
  have N10 := pk_2 N9
  exact k _ _ _ _ _ _ _ _ _ _ (fr_over (S := oO l (.int (a + c) _) (.int (b + c) _)) F9 (by repeat (first | exact List.forall_mem_nil _ | refine List.forall_mem_cons.mpr ⟨rfl, ?_⟩))) N10 ⟨_, _, _, _, _, rfl⟩ ⟨_, _, _, _, _, rfl⟩ (ne_cls N10 (.tail _ (.head _)) (.head _) (fun e => absurd (Value.type.inj e) (by decide))) (ne_cls N10 (.tail _ (.tail _ (.head _))) (.head _) (fun e => absurd (Value.type.inj e) (by decide)))
/-- the same over any ledger -/
theorem turn_REU {w : World} {e1 : Env} {s : Shared} {g : Heap} {L l : Addr} {m mg mb : Str → Option Value} {mean : ExcName → Option Value} {Q : Flow → Shared → Prop} {n : Nat} {arr : Array Value} {news : List (Addr × Obj)} {gg : Obj → List (Addr × Obj)}
    {a b c i j : Int} {ta tb tc ti tj : Tok}
    (X : (K w.params).In g) (T : Top qv (looseW qv loose) mean mg mb g)
    (F : Fr g L s.heap (over (oI l (.int a ta) (.int b tb) (.int c tc) (.int i ti) (.int j tj)) m))
    (N : News g L s.heap news) (U : UpdF l (listOf arr n) news gg) (hsz : arr.size ≤ 100) (q0 : i < a) (q1 : j < b) (q2 : 0 < c)
    (k : ∀ y0 y1 o0 o1 n' h' tk m' u v, Fr g L h' (over (oO l (.int (a + c) u) (.int (b + c) v)) m') → News g L h' ((y0, o0) :: (y1, o1) :: gg (listOf ((arr.push (.ref y0)).push (.ref y1)) n')) → Op o0 "replace" i a j b → Op o1 "equal" a (a + c) b (b + c) → @Ne Nat y0 l → @Ne Nat y1 l → Q .next { s with heap := h', toks := tk }) :
    wpAny (model pw w) ((callerA.deeper e1).deeper (envO L)) (execs OTurn (envO L)) Q (fun _ _ => False) s := by
  obtain ⟨pre, post, rfl, hg, x1, x2⟩ := U.split
  refine turn_RE (rest := pre ++ post) X T F (news_sub N (fun p hp => mem_front hp)) (fun p hp => (List.mem_append.mp hp).elim (x1 p) (x2 p)) hsz q0 q1 q2 ?_
  intro y0 y1 o0 o1 n' h' tk m' u v F' N' po0 po1 ne0 ne1
  refine k y0 y1 o0 o1 n' h' tk m' u v F' ?_ po0 po1 ne0 ne1
  rw [hg]
  exact news_sub N' fun p hp => by
    simp only [List.mem_cons, List.mem_append] at hp ⊢
    rcases hp with h | h | h | h | h <;> simp [h]
set_option maxHeartbeats 4000000 in
theorem turn_IE {w : World} {e1 : Env} {s : Shared} {g : Heap} {L l : Addr} {m mg mb : Str → Option Value} {mean : ExcName → Option Value} {Q : Flow → Shared → Prop} {n : Nat} {arr : Array Value} {rest : List (Addr × Obj)}
    {a b c i j : Int} {ta tb tc ti tj : Tok}
    (X : (K w.params).In g) (T : Top qv (looseW qv loose) mean mg mb g)
    (F : Fr g L s.heap (over (oI l (.int a ta) (.int b tb) (.int c tc) (.int i ti) (.int j tj)) m))
    (N : News g L s.heap ((l, listOf arr n) :: rest)) (hrest : ∀ p ∈ rest, p.1 ≠ l) (hsz : arr.size ≤ 100) (q0 : a ≤ i) (q1 : j < b) (q2 : 0 < c)
    (k : ∀ y0 y1 o0 o1 n' h' tk m' u v, Fr g L h' (over (oO l (.int (a + c) u) (.int (b + c) v)) m') → News g L h' ((l, listOf ((arr.push (.ref y0)).push (.ref y1)) n') :: (y0, o0) :: (y1, o1) :: rest) → Op o0 "insert" i a j b → Op o1 "equal" a (a + c) b (b + c) → @Ne Nat y0 l → @Ne Nat y1 l → Q .next { s with heap := h', toks := tk }) :
    wpAny (model pw w) ((callerA.deeper e1).deeper (envO L)) (execs OTurn (envO L)) Q (fun _ _ => False) s := by
  conv in OTurn => whnf
  show wpAny _ _ (execs _ _) _ _ _
  obtain ⟨hp, gn, dr, tk, os⟩ := s
  dsimp only at F N k
  repeat' (first | ((with_reducible show wpAny _ _ (execs _ _) _ _ _); exfalso; omega) | (walk1; all_goals (try dsimp only); all_goals (try ((with_reducible refine wp_tok ?_); intro tk))) | (dsimp only; walk1))
  rename Fr g L _ _ => F9
  rename News g L _ _ => N9
  have N10 := pk_2 N9
  exact k _ _ _ _ _ _ _ _ _ _ (fr_over (S := oO l (.int (a + c) _) (.int (b + c) _)) F9 (by repeat (first | exact List.forall_mem_nil _ | refine List.forall_mem_cons.mpr ⟨rfl, ?_⟩))) N10 ⟨_, _, _, _, _, rfl⟩ ⟨_, _, _, _, _, rfl⟩ (ne_cls N10 (.tail _ (.head _)) (.head _) (fun e => absurd (Value.type.inj e) (by decide))) (ne_cls N10 (.tail _ (.tail _ (.head _))) (.head _) (fun e => absurd (Value.type.inj e) (by decide)))
/-- the same over any ledger -/
theorem turn_IEU {w : World} {e1 : Env} {s : Shared} {g : Heap} {L l : Addr} {m mg mb : Str → Option Value} {mean : ExcName → Option Value} {Q : Flow → Shared → Prop} {n : Nat} {arr : Array Value} {news : List (Addr × Obj)} {gg : Obj → List (Addr × Obj)}
    {a b c i j : Int} {ta tb tc ti tj : Tok}
    (X : (K w.params).In g) (T : Top qv (looseW qv loose) mean mg mb g)
    (F : Fr g L s.heap (over (oI l (.int a ta) (.int b tb) (.int c tc) (.int i ti) (.int j tj)) m))
    (N : News g L s.heap news) (U : UpdF l (listOf arr n) news gg) (hsz : arr.size ≤ 100) (q0 : a ≤ i) (q1 : j < b) (q2 : 0 < c)
    (k : ∀ y0 y1 o0 o1 n' h' tk m' u v, Fr g L h' (over (oO l (.int (a + c) u) (.int (b + c) v)) m') → News g L h' ((y0, o0) :: (y1, o1) :: gg (listOf ((arr.push (.ref y0)).push (.ref y1)) n')) → Op o0 "insert" i a j b → Op o1 "equal" a (a + c) b (b + c) → @Ne Nat y0 l → @Ne Nat y1 l → Q .next { s with heap := h', toks := tk }) :
    wpAny (model pw w) ((callerA.deeper e1).deeper (envO L)) (execs OTurn (envO L)) Q (fun _ _ => False) s := by
  obtain ⟨pre, post, rfl, hg, x1, x2⟩ := U.split
  refine turn_IE (rest := pre ++ post) X T F (news_sub N (fun p hp => mem_front hp)) (fun p hp => (List.mem_append.mp hp).elim (x1 p) (x2 p)) hsz q0 q1 q2 ?_
  intro y0 y1 o0 o1 n' h' tk m' u v F' N' po0 po1 ne0 ne1
  refine k y0 y1 o0 o1 n' h' tk m' u v F' ?_ po0 po1 ne0 ne1
  rw [hg]
  exact news_sub N' fun p hp => by
    simp only [List.mem_cons, List.mem_append] at hp ⊢
    rcases hp with h | h | h | h | h <;> simp [h]
set_option maxHeartbeats 4000000 in
theorem turn_D0 {w : World} {e1 : Env} {s : Shared} {g : Heap} {L l : Addr} {m mg mb : Str → Option Value} {mean : ExcName → Option Value} {Q : Flow → Shared → Prop} {n : Nat} {arr : Array Value} {rest : List (Addr × Obj)}
    {a b c i j : Int} {ta tb tc ti tj : Tok}
    (X : (K w.params).In g) (T : Top qv (looseW qv loose) mean mg mb g)
    (F : Fr g L s.heap (over (oI l (.int a ta) (.int b tb) (.int c tc) (.int i ti) (.int j tj)) m))
    (N : News g L s.heap ((l, listOf arr n) :: rest)) (hrest : ∀ p ∈ rest, p.1 ≠ l) (hsz : arr.size ≤ 100) (q0 : i < a) (q1 : b ≤ j) (q2 : c = 0)
    (k : ∀ y0 o0 n' h' tk m' u v, Fr g L h' (over (oO l (.int (a + c) u) (.int (b + c) v)) m') → News g L h' ((l, listOf (arr.push (.ref y0)) n') :: (y0, o0) :: rest) → Op o0 "delete" i a j b → @Ne Nat y0 l → Q .next { s with heap := h', toks := tk }) :
    wpAny (model pw w) ((callerA.deeper e1).deeper (envO L)) (execs OTurn (envO L)) Q (fun _ _ => False) s := by
  conv in OTurn => whnf
  show wpAny _ _ (execs _ _) _ _ _
  obtain ⟨hp, gn, dr, tk, os⟩ := s
  dsimp only at F N k
  repeat' (first | ((with_reducible show wpAny _ _ (execs _ _) _ _ _); exfalso; omega) | (walk1; all_goals (try dsimp only); all_goals (try ((with_reducible refine wp_tok ?_); intro tk))) | (dsimp only; walk1))
  rename Fr g L _ _ => F9
  rename News g L _ _ => N9
  have N10 := pk_0 N9
  exact k _ _ _ _ _ _ _ _ (fr_over (S := oO l (.int (a + c) _) (.int (b + c) _)) F9 (by repeat (first | exact List.forall_mem_nil _ | refine List.forall_mem_cons.mpr ⟨rfl, ?_⟩))) N10 ⟨_, _, _, _, _, rfl⟩ (ne_cls N10 (.tail _ (.head _)) (.head _) (fun e => absurd (Value.type.inj e) (by decide)))
/-- the same over any ledger -/
theorem turn_D0U {w : World} {e1 : Env} {s : Shared} {g : Heap} {L l : Addr} {m mg mb : Str → Option Value} {mean : ExcName → Option Value} {Q : Flow → Shared → Prop} {n : Nat} {arr : Array Value} {news : List (Addr × Obj)} {gg : Obj → List (Addr × Obj)}
    {a b c i j : Int} {ta tb tc ti tj : Tok}
    (X : (K w.params).In g) (T : Top qv (looseW qv loose) mean mg mb g)
    (F : Fr g L s.heap (over (oI l (.int a ta) (.int b tb) (.int c tc) (.int i ti) (.int j tj)) m))
    (N : News g L s.heap news) (U : UpdF l (listOf arr n) news gg) (hsz : arr.size ≤ 100) (q0 : i < a) (q1 : b ≤ j) (q2 : c = 0)
    (k : ∀ y0 o0 n' h' tk m' u v, Fr g L h' (over (oO l (.int (a + c) u) (.int (b + c) v)) m') → News g L h' ((y0, o0) :: gg (listOf (arr.push (.ref y0)) n')) → Op o0 "delete" i a j b → @Ne Nat y0 l → Q .next { s with heap := h', toks := tk }) :
    wpAny (model pw w) ((callerA.deeper e1).deeper (envO L)) (execs OTurn (envO L)) Q (fun _ _ => False) s := by
  obtain ⟨pre, post, rfl, hg, x1, x2⟩ := U.split
  refine turn_D0 (rest := pre ++ post) X T F (news_sub N (fun p hp => mem_front hp)) (fun p hp => (List.mem_append.mp hp).elim (x1 p) (x2 p)) hsz q0 q1 q2 ?_
  intro y0 o0 n' h' tk m' u v F' N' po0 ne0
  refine k y0 o0 n' h' tk m' u v F' ?_ po0 ne0
  rw [hg]
  exact news_sub N' fun p hp => by
    simp only [List.mem_cons, List.mem_append] at hp ⊢
    rcases hp with h | h | h | h <;> simp [h]
set_option maxHeartbeats 4000000 in
theorem turn_I0 {w : World} {e1 : Env} {s : Shared} {g : Heap} {L l : Addr} {m mg mb : Str → Option Value} {mean : ExcName → Option Value} {Q : Flow → Shared → Prop} {n : Nat} {arr : Array Value} {rest : List (Addr × Obj)}
    {a b c i j : Int} {ta tb tc ti tj : Tok}
    (X : (K w.params).In g) (T : Top qv (looseW qv loose) mean mg mb g)
    (F : Fr g L s.heap (over (oI l (.int a ta) (.int b tb) (.int c tc) (.int i ti) (.int j tj)) m))
    (N : News g L s.heap ((l, listOf arr n) :: rest)) (hrest : ∀ p ∈ rest, p.1 ≠ l) (hsz : arr.size ≤ 100) (q0 : a ≤ i) (q1 : j < b) (q2 : c = 0)
    (k : ∀ y0 o0 n' h' tk m' u v, Fr g L h' (over (oO l (.int (a + c) u) (.int (b + c) v)) m') → News g L h' ((l, listOf (arr.push (.ref y0)) n') :: (y0, o0) :: rest) → Op o0 "insert" i a j b → @Ne Nat y0 l → Q .next { s with heap := h', toks := tk }) :
    wpAny (model pw w) ((callerA.deeper e1).deeper (envO L)) (execs OTurn (envO L)) Q (fun _ _ => False) s := by
  conv in OTurn => whnf
  show wpAny _ _ (execs _ _) _ _ _
  obtain ⟨hp, gn, dr, tk, os⟩ := s
  dsimp only at F N k
  repeat' (first | ((with_reducible show wpAny _ _ (execs _ _) _ _ _); exfalso; omega) | (walk1; all_goals (try dsimp only); all_goals (try ((with_reducible refine wp_tok ?_); intro tk))) | (dsimp only; walk1))
  rename Fr g L _ _ => F9
  rename News g L _ _ => N9
  have N10 := pk_0 N9
  exact k _ _ _ _ _ _ _ _ (fr_over (S := oO l (.int (a + c) _) (.int (b + c) _)) F9 (by repeat (first | exact List.forall_mem_nil _ | refine List.forall_mem_cons.mpr ⟨rfl, ?_⟩))) N10 ⟨_, _, _, _, _, rfl⟩ (ne_cls N10 (.tail _ (.head _)) (.head _) (fun e => absurd (Value.type.inj e) (by decide)))
/-- the same over any ledger -/
theorem turn_I0U {w : World} {e1 : Env} {s : Shared} {g : Heap} {L l : Addr} {m mg mb : Str → Option Value} {mean : ExcName → Option Value} {Q : Flow → Shared → Prop} {n : Nat} {arr : Array Value} {news : List (Addr × Obj)} {gg : Obj → List (Addr × Obj)}
    {a b c i j : Int} {ta tb tc ti tj : Tok}
    (X : (K w.params).In g) (T : Top qv (looseW qv loose) mean mg mb g)
    (F : Fr g L s.heap (over (oI l (.int a ta) (.int b tb) (.int c tc) (.int i ti) (.int j tj)) m))
    (N : News g L s.heap news) (U : UpdF l (listOf arr n) news gg) (hsz : arr.size ≤ 100) (q0 : a ≤ i) (q1 : j < b) (q2 : c = 0)
    (k : ∀ y0 o0 n' h' tk m' u v, Fr g L h' (over (oO l (.int (a + c) u) (.int (b + c) v)) m') → News g L h' ((y0, o0) :: gg (listOf (arr.push (.ref y0)) n')) → Op o0 "insert" i a j b → @Ne Nat y0 l → Q .next { s with heap := h', toks := tk }) :
    wpAny (model pw w) ((callerA.deeper e1).deeper (envO L)) (execs OTurn (envO L)) Q (fun _ _ => False) s := by
  obtain ⟨pre, post, rfl, hg, x1, x2⟩ := U.split
  refine turn_I0 (rest := pre ++ post) X T F (news_sub N (fun p hp => mem_front hp)) (fun p hp => (List.mem_append.mp hp).elim (x1 p) (x2 p)) hsz q0 q1 q2 ?_
  intro y0 o0 n' h' tk m' u v F' N' po0 ne0
  refine k y0 o0 n' h' tk m' u v F' ?_ po0 ne0
  rw [hg]
  exact news_sub N' fun p hp => by
    simp only [List.mem_cons, List.mem_append] at hp ⊢
    rcases hp with h | h | h | h <;> simp [h]
end Mine
end
theorem Mine.flush4 {M : PySem.Model} {A : PySem.Around} {env : PySem.Env} {E : PySem.Value → PySem.Shared → Prop} {Q : PySem.Flow → PySem.Shared → Prop} {s : PySem.Shared} (h : Q .next s) : PySem.wpAny M A (PySem.execs [] env) Q E s := by first | (walk1; exact h) | exact PySem.wpAny_execs_nil h
section
open PySem PySem.W PySem.Calls PyProof.Rows
set_option maxRecDepth 100000
namespace Mine
theorem op_tuple {o : Obj} {tag : String} {a b c d : Int} (h : Op o tag a b c d) : o.cls = .type "tuple" := by
  obtain ⟨_, _, _, _, _, rfl⟩ := h
  rfl
theorem news_rot {g h : Heap} {L : Addr} {a b c : Addr × Obj} {r : List (Addr × Obj)} (N : News g L h (a :: b :: c :: r)) : News g L h (c :: a :: b :: r) := fun p hp => N p (by simp only [List.mem_cons] at hp ⊢; rcases hp with h | h | h | h <;> simp [h])
local macro_rules | `(tactic| k_all) => `(tactic| assumption)
set_option maxHeartbeats 4000000 in
theorem opcC {w : World} {e1 : Env} {s : Shared} {g base : Heap} {outer : List Env} {L M dM la lb D S1 S x0 x1 x2 d0 d1 d2 : Addr} {mg mb : Str → Option Value} {mean : ExcName → Option Value} {t : Nat → Tok} {vbp : Value} {Q : Flow → Shared → Prop} {c : Nat}
    {a1 b1 c1 na nb : Int} {p0 p1 p2 p3 p4 p5 p6 p7 p8 : Tok}
    (X : (K w.params).In g) (T : Top qv (looseW qv loose) mean mg mb g) (B : Below (callerA.deeper e1) base outer g)
    (F : Fr g L s.heap (fun y => List.lookup y [(Str.ofString "self", Value.ref M)].reverse))
    (N : News g L s.heap [(M, instObj 242 dM), (dM, flmD w.params t la lb (.ref S) .none D S1 vbp), (S, listOf #[.ref x0, .ref x1, .ref x2] c), (x0, mObj d0 (.int 0 p0) (.int 0 p1) (.int (0 + 1) p2)), (x1, mObj d1 (.int a1 p3) (.int b1 p4) (.int c1 p5)), (x2, mObj d2 (.int na p6) (.int nb p7) (.int 0 p8))])
    (o1 : @LT.lt Nat _ dM M) (o2 : @LT.lt Nat _ dM S) (o3 : @LT.lt Nat _ S x0) (o4 : @LT.lt Nat _ S x1) (o5 : @LT.lt Nat _ S x2)
    (q0 : 1 < a1) (q1 : 1 < b1) (q2 : 0 < c1) (q3 : a1 + c1 < na) (q4 : b1 + c1 = nb)
    (k : ∀ l y0 y1 y2 y3 o0 o1 o2 o3 c' h' tk m', Fr g L h' m' → News g L h' [(l, listOf #[.ref y0, .ref y1, .ref y2, .ref y3] c'), (y0, o0), (y1, o1), (y2, o2), (y3, o3), (M, instObj 242 dM), (dM, flmD w.params t la lb (.ref S) (.ref l) D S1 vbp), (S, listOf #[.ref x0, .ref x1, .ref x2] c), (x0, mObj d0 (.int 0 p0) (.int 0 p1) (.int (0 + 1) p2)), (x1, mObj d1 (.int a1 p3) (.int b1 p4) (.int c1 p5)), (x2, mObj d2 (.int na p6) (.int nb p7) (.int 0 p8))] → Op o0 "equal" (0) (1) (0) (1) → Op o1 "replace" (1) (a1) (1) (b1) → Op o2 "equal" (a1) (a1 + c1) (b1) (b1 + c1) → Op o3 "delete" (a1 + c1) (na) (b1 + c1) (nb) → Q (.ret (.ref l)) { s with heap := h', toks := tk }) :
    wpAny (model pw w) ((callerA.deeper e1).deeper (envO L)) (execs B210 (envO L)) Q (fun _ _ => False) s := by
  conv in B210 => whnf
  show wpAny _ _ (execs _ _) _ _ _
  obtain ⟨hp, gn, dr, tk, os⟩ := s
  dsimp only at F N k
  repeat' ((fail_if_success (with_reducible show wpAny _ _ (execs (Stmt.Assign [PySem.Expr.Name (PySem.Str.ofString "tag") _] _ _ :: _) _) _ _ _)); (first | ((first | (k_here; (with_reducible show wpAny _ _ (exec (Stmt.For (PySem.Expr.Tuple _ _ _) (PySem.Expr.Call _ _ _ _) _ _ _) _) _ _ _); (rename Fr _ _ _ _ => lF'); (with_unfolding_all refine For_turns lF' ?_)) | (k_here; (with_reducible show wpAny _ _ (call (Value.ref 203) _) _ _ _); k_dflt (refine gmb_cached (by k_asm) (by k_asm) (by k_asm) (by k_asm) (by k_asm) (by k_mem) (by k_mem) (by exact rfl) (by (simp only [depth_deeper, depth_caller]; decide)) ?_); intro h' tk' F' N'; (try k_sweep)) | (k_here; (with_reducible show wpAny _ _ (assign (Expr.Tuple _ _ _) _ (Value.ref _)) _ _ _); k_dflt (refine unpackM (by k_asm) (by k_asm) (by k_asm) (by k_mem) (by exact rfl) (by exact rfl) (by exact rfl) ?_); intro h' F' N'; (try k_sweep)) | walk1); all_goals (try dsimp only); all_goals (try ((with_reducible refine wp_tok ?_); intro tk))) | (dsimp only; (first | (k_here; (with_reducible show wpAny _ _ (exec (Stmt.For (PySem.Expr.Tuple _ _ _) (PySem.Expr.Call _ _ _ _) _ _ _) _) _ _ _); (rename Fr _ _ _ _ => lF'); (with_unfolding_all refine For_turns lF' ?_)) | (k_here; (with_reducible show wpAny _ _ (call (Value.ref 203) _) _ _ _); k_dflt (refine gmb_cached (by k_asm) (by k_asm) (by k_asm) (by k_asm) (by k_asm) (by k_mem) (by k_mem) (by exact rfl) (by (simp only [depth_deeper, depth_caller]; decide)) ?_); intro h' tk' F' N'; (try k_sweep)) | (k_here; (with_reducible show wpAny _ _ (assign (Expr.Tuple _ _ _) _ (Value.ref _)) _ _ _); k_dflt (refine unpackM (by k_asm) (by k_asm) (by k_asm) (by k_mem) (by exact rfl) (by exact rfl) (by exact rfl) ?_); intro h' F' N'; (try k_sweep)) | walk1)) | ((change UnrEndW _ _ _ _ _ _); ktu_end)))
  rename Fr g L _ _ => F1
  rename News g L _ _ => N1
  refine turn_EU X T (fr_over (S := oI _ (.int 0 _) (.int 0 _) (.int (0 + 1) _) (.int 0 _) (.int 0 _)) F1 (by repeat (first | exact List.forall_mem_nil _ | refine List.forall_mem_cons.mpr ⟨rfl, ?_⟩))) N1 (by k_updF) (Nat.le_of_ble_eq_true rfl) (by omega) (by omega) (by omega) ?_
  clear F1 N1
  intro y0 o0 nn1 h1 tk1 m1 w1 z1 G1 M1 po0 ne0
  try dsimp only at M1
  replace M1 := news_swap M1
  have hc0 : o0.cls = .type "tuple" := op_tuple po0
  try dsimp only
  repeat' ((fail_if_success (with_reducible show wpAny _ _ (execs (Stmt.Assign [PySem.Expr.Name (PySem.Str.ofString "tag") _] _ _ :: _) _) _ _ _)); (first | ((first | (k_here; (with_reducible show wpAny _ _ (exec (Stmt.For (PySem.Expr.Tuple _ _ _) (PySem.Expr.Call _ _ _ _) _ _ _) _) _ _ _); (rename Fr _ _ _ _ => lF'); (with_unfolding_all refine For_turns lF' ?_)) | (k_here; (with_reducible show wpAny _ _ (call (Value.ref 203) _) _ _ _); k_dflt (refine gmb_cached (by k_asm) (by k_asm) (by k_asm) (by k_asm) (by k_asm) (by k_mem) (by k_mem) (by exact rfl) (by (simp only [depth_deeper, depth_caller]; decide)) ?_); intro h' tk' F' N'; (try k_sweep)) | (k_here; (with_reducible show wpAny _ _ (assign (Expr.Tuple _ _ _) _ (Value.ref _)) _ _ _); k_dflt (refine unpackM (by k_asm) (by k_asm) (by k_asm) (by k_mem) (by exact rfl) (by exact rfl) (by exact rfl) ?_); intro h' F' N'; (try k_sweep)) | walk1); all_goals (try dsimp only); all_goals (try ((with_reducible refine wp_tok ?_); intro tk))) | (dsimp only; (first | (k_here; (with_reducible show wpAny _ _ (exec (Stmt.For (PySem.Expr.Tuple _ _ _) (PySem.Expr.Call _ _ _ _) _ _ _) _) _ _ _); (rename Fr _ _ _ _ => lF'); (with_unfolding_all refine For_turns lF' ?_)) | (k_here; (with_reducible show wpAny _ _ (call (Value.ref 203) _) _ _ _); k_dflt (refine gmb_cached (by k_asm) (by k_asm) (by k_asm) (by k_asm) (by k_asm) (by k_mem) (by k_mem) (by exact rfl) (by (simp only [depth_deeper, depth_caller]; decide)) ?_); intro h' tk' F' N'; (try k_sweep)) | (k_here; (with_reducible show wpAny _ _ (assign (Expr.Tuple _ _ _) _ (Value.ref _)) _ _ _); k_dflt (refine unpackM (by k_asm) (by k_asm) (by k_asm) (by k_mem) (by exact rfl) (by exact rfl) (by exact rfl) ?_); intro h' F' N'; (try k_sweep)) | walk1)) | ((change UnrEndW _ _ _ _ _ _); ktu_end)))
  rename Fr g L _ _ => F2
  rename News g L _ _ => N2
  refine turn_REU X T (fr_over (S := oI _ (.int a1 _) (.int b1 _) (.int c1 _) (.int (0 + (0 + 1)) _) (.int (0 + (0 + 1)) _)) F2 (by repeat (first | exact List.forall_mem_nil _ | refine List.forall_mem_cons.mpr ⟨rfl, ?_⟩))) N2 (by k_updF) (Nat.le_of_ble_eq_true rfl) (by omega) (by omega) (by omega) ?_
  clear F2 N2
  intro y1 y2 o1 o2 nn2 h2 tk2 m2 w2 z2 G2 M2 po1 po2 ne1 ne2
  try dsimp only at M2
  replace M2 := news_rot M2
  have hc1 : o1.cls = .type "tuple" := op_tuple po1
  have hc2 : o2.cls = .type "tuple" := op_tuple po2
  try dsimp only
  repeat' ((fail_if_success (with_reducible show wpAny _ _ (execs (Stmt.Assign [PySem.Expr.Name (PySem.Str.ofString "tag") _] _ _ :: _) _) _ _ _)); (first | ((first | (k_here; (with_reducible show wpAny _ _ (exec (Stmt.For (PySem.Expr.Tuple _ _ _) (PySem.Expr.Call _ _ _ _) _ _ _) _) _ _ _); (rename Fr _ _ _ _ => lF'); (with_unfolding_all refine For_turns lF' ?_)) | (k_here; (with_reducible show wpAny _ _ (call (Value.ref 203) _) _ _ _); k_dflt (refine gmb_cached (by k_asm) (by k_asm) (by k_asm) (by k_asm) (by k_asm) (by k_mem) (by k_mem) (by exact rfl) (by (simp only [depth_deeper, depth_caller]; decide)) ?_); intro h' tk' F' N'; (try k_sweep)) | (k_here; (with_reducible show wpAny _ _ (assign (Expr.Tuple _ _ _) _ (Value.ref _)) _ _ _); k_dflt (refine unpackM (by k_asm) (by k_asm) (by k_asm) (by k_mem) (by exact rfl) (by exact rfl) (by exact rfl) ?_); intro h' F' N'; (try k_sweep)) | walk1); all_goals (try dsimp only); all_goals (try ((with_reducible refine wp_tok ?_); intro tk))) | (dsimp only; (first | (k_here; (with_reducible show wpAny _ _ (exec (Stmt.For (PySem.Expr.Tuple _ _ _) (PySem.Expr.Call _ _ _ _) _ _ _) _) _ _ _); (rename Fr _ _ _ _ => lF'); (with_unfolding_all refine For_turns lF' ?_)) | (k_here; (with_reducible show wpAny _ _ (call (Value.ref 203) _) _ _ _); k_dflt (refine gmb_cached (by k_asm) (by k_asm) (by k_asm) (by k_asm) (by k_asm) (by k_mem) (by k_mem) (by exact rfl) (by (simp only [depth_deeper, depth_caller]; decide)) ?_); intro h' tk' F' N'; (try k_sweep)) | (k_here; (with_reducible show wpAny _ _ (assign (Expr.Tuple _ _ _) _ (Value.ref _)) _ _ _); k_dflt (refine unpackM (by k_asm) (by k_asm) (by k_asm) (by k_mem) (by exact rfl) (by exact rfl) (by exact rfl) ?_); intro h' F' N'; (try k_sweep)) | walk1)) | ((change UnrEndW _ _ _ _ _ _); ktu_end)))
  rename Fr g L _ _ => F3
  rename News g L _ _ => N3
  refine turn_D0U X T (fr_over (S := oI _ (.int na _) (.int nb _) (.int 0 _) (.int (a1 + c1) _) (.int (b1 + c1) _)) F3 (by repeat (first | exact List.forall_mem_nil _ | refine List.forall_mem_cons.mpr ⟨rfl, ?_⟩))) N3 (by k_updF) (Nat.le_of_ble_eq_true rfl) (by omega) (by omega) (by omega) ?_
  clear F3 N3
  intro y3 o3 nn3 h3 tk3 m3 w3 z3 G3 M3 po3 ne3
  try dsimp only at M3
  replace M3 := news_swap M3
  have hc3 : o3.cls = .type "tuple" := op_tuple po3
  try dsimp only
  repeat' ((fail_if_success (with_reducible show wpAny _ _ (execs (Stmt.Assign [PySem.Expr.Name (PySem.Str.ofString "tag") _] _ _ :: _) _) _ _ _)); (first | ((first | (k_here; (with_reducible show wpAny _ _ (exec (Stmt.For (PySem.Expr.Tuple _ _ _) (PySem.Expr.Call _ _ _ _) _ _ _) _) _ _ _); (rename Fr _ _ _ _ => lF'); (with_unfolding_all refine For_turns lF' ?_)) | (k_here; (with_reducible show wpAny _ _ (call (Value.ref 203) _) _ _ _); k_dflt (refine gmb_cached (by k_asm) (by k_asm) (by k_asm) (by k_asm) (by k_asm) (by k_mem) (by k_mem) (by exact rfl) (by (simp only [depth_deeper, depth_caller]; decide)) ?_); intro h' tk' F' N'; (try k_sweep)) | (k_here; (with_reducible show wpAny _ _ (assign (Expr.Tuple _ _ _) _ (Value.ref _)) _ _ _); k_dflt (refine unpackM (by k_asm) (by k_asm) (by k_asm) (by k_mem) (by exact rfl) (by exact rfl) (by exact rfl) ?_); intro h' F' N'; (try k_sweep)) | walk1); all_goals (try dsimp only); all_goals (try ((with_reducible refine wp_tok ?_); intro tk))) | (dsimp only; (first | (k_here; (with_reducible show wpAny _ _ (exec (Stmt.For (PySem.Expr.Tuple _ _ _) (PySem.Expr.Call _ _ _ _) _ _ _) _) _ _ _); (rename Fr _ _ _ _ => lF'); (with_unfolding_all refine For_turns lF' ?_)) | (k_here; (with_reducible show wpAny _ _ (call (Value.ref 203) _) _ _ _); k_dflt (refine gmb_cached (by k_asm) (by k_asm) (by k_asm) (by k_asm) (by k_asm) (by k_mem) (by k_mem) (by exact rfl) (by (simp only [depth_deeper, depth_caller]; decide)) ?_); intro h' tk' F' N'; (try k_sweep)) | (k_here; (with_reducible show wpAny _ _ (assign (Expr.Tuple _ _ _) _ (Value.ref _)) _ _ _); k_dflt (refine unpackM (by k_asm) (by k_asm) (by k_asm) (by k_mem) (by exact rfl) (by exact rfl) (by exact rfl) ?_); intro h' F' N'; (try k_sweep)) | walk1)) | ((change UnrEndW _ _ _ _ _ _); ktu_end)))
  rename Fr g _ _ _ => F9
  rename News g _ _ _ => N9
  exact k _ y0 y1 y2 y3 o0 o1 o2 o3 _ _ _ _ F9 (news_sub N9 (by repeat (first | exact List.forall_mem_nil _ | refine List.forall_mem_cons.mpr ⟨by k_mem, ?_⟩))) po0 po1 po2 po3
set_option maxHeartbeats 4000000 in
theorem opcD {w : World} {e1 : Env} {s : Shared} {g base : Heap} {outer : List Env} {L M dM la lb D S1 S x0 x1 x2 d0 d1 d2 : Addr} {mg mb : Str → Option Value} {mean : ExcName → Option Value} {t : Nat → Tok} {vbp : Value} {Q : Flow → Shared → Prop} {c : Nat}
    {a1 b1 c1 na nb : Int} {p0 p1 p2 p3 p4 p5 p6 p7 p8 : Tok}
    (X : (K w.params).In g) (T : Top qv (looseW qv loose) mean mg mb g) (B : Below (callerA.deeper e1) base outer g)
    (F : Fr g L s.heap (fun y => List.lookup y [(Str.ofString "self", Value.ref M)].reverse))
    (N : News g L s.heap [(M, instObj 242 dM), (dM, flmD w.params t la lb (.ref S) .none D S1 vbp), (S, listOf #[.ref x0, .ref x1, .ref x2] c), (x0, mObj d0 (.int 0 p0) (.int 0 p1) (.int (0 + 1) p2)), (x1, mObj d1 (.int a1 p3) (.int b1 p4) (.int c1 p5)), (x2, mObj d2 (.int na p6) (.int nb p7) (.int 0 p8))])
    (o1 : @LT.lt Nat _ dM M) (o2 : @LT.lt Nat _ dM S) (o3 : @LT.lt Nat _ S x0) (o4 : @LT.lt Nat _ S x1) (o5 : @LT.lt Nat _ S x2)
    (q0 : 1 < a1) (q1 : 1 < b1) (q2 : 0 < c1) (q3 : a1 + c1 = na) (q4 : b1 + c1 < nb)
    (k : ∀ l y0 y1 y2 y3 o0 o1 o2 o3 c' h' tk m', Fr g L h' m' → News g L h' [(l, listOf #[.ref y0, .ref y1, .ref y2, .ref y3] c'), (y0, o0), (y1, o1), (y2, o2), (y3, o3), (M, instObj 242 dM), (dM, flmD w.params t la lb (.ref S) (.ref l) D S1 vbp), (S, listOf #[.ref x0, .ref x1, .ref x2] c), (x0, mObj d0 (.int 0 p0) (.int 0 p1) (.int (0 + 1) p2)), (x1, mObj d1 (.int a1 p3) (.int b1 p4) (.int c1 p5)), (x2, mObj d2 (.int na p6) (.int nb p7) (.int 0 p8))] → Op o0 "equal" (0) (1) (0) (1) → Op o1 "replace" (1) (a1) (1) (b1) → Op o2 "equal" (a1) (a1 + c1) (b1) (b1 + c1) → Op o3 "insert" (a1 + c1) (na) (b1 + c1) (nb) → Q (.ret (.ref l)) { s with heap := h', toks := tk }) :
    wpAny (model pw w) ((callerA.deeper e1).deeper (envO L)) (execs B210 (envO L)) Q (fun _ _ => False) s := by
  conv in B210 => whnf
  show wpAny _ _ (execs _ _) _ _ _
  obtain ⟨hp, gn, dr, tk, os⟩ := s
  dsimp only at F N k
  repeat' ((fail_if_success (with_reducible show wpAny _ _ (execs (Stmt.Assign [PySem.Expr.Name (PySem.Str.ofString "tag") _] _ _ :: _) _) _ _ _)); (first | ((first | (k_here; (with_reducible show wpAny _ _ (exec (Stmt.For (PySem.Expr.Tuple _ _ _) (PySem.Expr.Call _ _ _ _) _ _ _) _) _ _ _); (rename Fr _ _ _ _ => lF'); (with_unfolding_all refine For_turns lF' ?_)) | (k_here; (with_reducible show wpAny _ _ (call (Value.ref 203) _) _ _ _); k_dflt (refine gmb_cached (by k_asm) (by k_asm) (by k_asm) (by k_asm) (by k_asm) (by k_mem) (by k_mem) (by exact rfl) (by (simp only [depth_deeper, depth_caller]; decide)) ?_); intro h' tk' F' N'; (try k_sweep)) | (k_here; (with_reducible show wpAny _ _ (assign (Expr.Tuple _ _ _) _ (Value.ref _)) _ _ _); k_dflt (refine unpackM (by k_asm) (by k_asm) (by k_asm) (by k_mem) (by exact rfl) (by exact rfl) (by exact rfl) ?_); intro h' F' N'; (try k_sweep)) | walk1); all_goals (try dsimp only); all_goals (try ((with_reducible refine wp_tok ?_); intro tk))) | (dsimp only; (first | (k_here; (with_reducible show wpAny _ _ (exec (Stmt.For (PySem.Expr.Tuple _ _ _) (PySem.Expr.Call _ _ _ _) _ _ _) _) _ _ _); (rename Fr _ _ _ _ => lF'); (with_unfolding_all refine For_turns lF' ?_)) | (k_here; (with_reducible show wpAny _ _ (call (Value.ref 203) _) _ _ _); k_dflt (refine gmb_cached (by k_asm) (by k_asm) (by k_asm) (by k_asm) (by k_asm) (by k_mem) (by k_mem) (by exact rfl) (by (simp only [depth_deeper, depth_caller]; decide)) ?_); intro h' tk' F' N'; (try k_sweep)) | (k_here; (with_reducible show wpAny _ _ (assign (Expr.Tuple _ _ _) _ (Value.ref _)) _ _ _); k_dflt (refine unpackM (by k_asm) (by k_asm) (by k_asm) (by k_mem) (by exact rfl) (by exact rfl) (by exact rfl) ?_); intro h' F' N'; (try k_sweep)) | walk1)) | ((change UnrEndW _ _ _ _ _ _); ktu_end)))
  rename Fr g L _ _ => F1
  rename News g L _ _ => N1
  refine turn_EU X T (fr_over (S := oI _ (.int 0 _) (.int 0 _) (.int (0 + 1) _) (.int 0 _) (.int 0 _)) F1 (by repeat (first | exact List.forall_mem_nil _ | refine List.forall_mem_cons.mpr ⟨rfl, ?_⟩))) N1 (by k_updF) (Nat.le_of_ble_eq_true rfl) (by omega) (by omega) (by omega) ?_
  clear F1 N1
  intro y0 o0 nn1 h1 tk1 m1 w1 z1 G1 M1 po0 ne0
  try dsimp only at M1
  replace M1 := news_swap M1
  have hc0 : o0.cls = .type "tuple" := op_tuple po0
  try dsimp only
  repeat' ((fail_if_success (with_reducible show wpAny _ _ (execs (Stmt.Assign [PySem.Expr.Name (PySem.Str.ofString "tag") _] _ _ :: _) _) _ _ _)); (first | ((first | (k_here; (with_reducible show wpAny _ _ (exec (Stmt.For (PySem.Expr.Tuple _ _ _) (PySem.Expr.Call _ _ _ _) _ _ _) _) _ _ _); (rename Fr _ _ _ _ => lF'); (with_unfolding_all refine For_turns lF' ?_)) | (k_here; (with_reducible show wpAny _ _ (call (Value.ref 203) _) _ _ _); k_dflt (refine gmb_cached (by k_asm) (by k_asm) (by k_asm) (by k_asm) (by k_asm) (by k_mem) (by k_mem) (by exact rfl) (by (simp only [depth_deeper, depth_caller]; decide)) ?_); intro h' tk' F' N'; (try k_sweep)) | (k_here; (with_reducible show wpAny _ _ (assign (Expr.Tuple _ _ _) _ (Value.ref _)) _ _ _); k_dflt (refine unpackM (by k_asm) (by k_asm) (by k_asm) (by k_mem) (by exact rfl) (by exact rfl) (by exact rfl) ?_); intro h' F' N'; (try k_sweep)) | walk1); all_goals (try dsimp only); all_goals (try ((with_reducible refine wp_tok ?_); intro tk))) | (dsimp only; (first | (k_here; (with_reducible show wpAny _ _ (exec (Stmt.For (PySem.Expr.Tuple _ _ _) (PySem.Expr.Call _ _ _ _) _ _ _) _) _ _ _); (rename Fr _ _ _ _ => lF'); (with_unfolding_all refine For_turns lF' ?_)) | (k_here; (with_reducible show wpAny _ _ (call (Value.ref 203) _) _ _ _); k_dflt (refine gmb_cached (by k_asm) (by k_asm) (by k_asm) (by k_asm) (by k_asm) (by k_mem) (by k_mem) (by exact rfl) (by (simp only [depth_deeper, depth_caller]; decide)) ?_); intro h' tk' F' N'; (try k_sweep)) | (k_here; (with_reducible show wpAny _ _ (assign (Expr.Tuple _ _ _) _ (Value.ref _)) _ _ _); k_dflt (refine unpackM (by k_asm) (by k_asm) (by k_asm) (by k_mem) (by exact rfl) (by exact rfl) (by exact rfl) ?_); intro h' F' N'; (try k_sweep)) | walk1)) | ((change UnrEndW _ _ _ _ _ _); ktu_end)))
  rename Fr g L _ _ => F2
  rename News g L _ _ => N2
  refine turn_REU X T (fr_over (S := oI _ (.int a1 _) (.int b1 _) (.int c1 _) (.int (0 + (0 + 1)) _) (.int (0 + (0 + 1)) _)) F2 (by repeat (first | exact List.forall_mem_nil _ | refine List.forall_mem_cons.mpr ⟨rfl, ?_⟩))) N2 (by k_updF) (Nat.le_of_ble_eq_true rfl) (by omega) (by omega) (by omega) ?_
  clear F2 N2
  intro y1 y2 o1 o2 nn2 h2 tk2 m2 w2 z2 G2 M2 po1 po2 ne1 ne2
  try dsimp only at M2
  replace M2 := news_rot M2
  have hc1 : o1.cls = .type "tuple" := op_tuple po1
  have hc2 : o2.cls = .type "tuple" := op_tuple po2
  try dsimp only
  repeat' ((fail_if_success (with_reducible show wpAny _ _ (execs (Stmt.Assign [PySem.Expr.Name (PySem.Str.ofString "tag") _] _ _ :: _) _) _ _ _)); (first | ((first | (k_here; (with_reducible show wpAny _ _ (exec (Stmt.For (PySem.Expr.Tuple _ _ _) (PySem.Expr.Call _ _ _ _) _ _ _) _) _ _ _); (rename Fr _ _ _ _ => lF'); (with_unfolding_all refine For_turns lF' ?_)) | (k_here; (with_reducible show wpAny _ _ (call (Value.ref 203) _) _ _ _); k_dflt (refine gmb_cached (by k_asm) (by k_asm) (by k_asm) (by k_asm) (by k_asm) (by k_mem) (by k_mem) (by exact rfl) (by (simp only [depth_deeper, depth_caller]; decide)) ?_); intro h' tk' F' N'; (try k_sweep)) | (k_here; (with_reducible show wpAny _ _ (assign (Expr.Tuple _ _ _) _ (Value.ref _)) _ _ _); k_dflt (refine unpackM (by k_asm) (by k_asm) (by k_asm) (by k_mem) (by exact rfl) (by exact rfl) (by exact rfl) ?_); intro h' F' N'; (try k_sweep)) | walk1); all_goals (try dsimp only); all_goals (try ((with_reducible refine wp_tok ?_); intro tk))) | (dsimp only; (first | (k_here; (with_reducible show wpAny _ _ (exec (Stmt.For (PySem.Expr.Tuple _ _ _) (PySem.Expr.Call _ _ _ _) _ _ _) _) _ _ _); (rename Fr _ _ _ _ => lF'); (with_unfolding_all refine For_turns lF' ?_)) | (k_here; (with_reducible show wpAny _ _ (call (Value.ref 203) _) _ _ _); k_dflt (refine gmb_cached (by k_asm) (by k_asm) (by k_asm) (by k_asm) (by k_asm) (by k_mem) (by k_mem) (by exact rfl) (by (simp only [depth_deeper, depth_caller]; decide)) ?_); intro h' tk' F' N'; (try k_sweep)) | (k_here; (with_reducible show wpAny _ _ (assign (Expr.Tuple _ _ _) _ (Value.ref _)) _ _ _); k_dflt (refine unpackM (by k_asm) (by k_asm) (by k_asm) (by k_mem) (by exact rfl) (by exact rfl) (by exact rfl) ?_); intro h' F' N'; (try k_sweep)) | walk1)) | ((change UnrEndW _ _ _ _ _ _); ktu_end)))
  rename Fr g L _ _ => F3
  rename News g L _ _ => N3
  refine turn_I0U X T (fr_over (S := oI _ (.int na _) (.int nb _) (.int 0 _) (.int (a1 + c1) _) (.int (b1 + c1) _)) F3 (by repeat (first | exact List.forall_mem_nil _ | refine List.forall_mem_cons.mpr ⟨rfl, ?_⟩))) N3 (by k_updF) (Nat.le_of_ble_eq_true rfl) (by omega) (by omega) (by omega) ?_
  clear F3 N3
  intro y3 o3 nn3 h3 tk3 m3 w3 z3 G3 M3 po3 ne3
  try dsimp only at M3
  replace M3 := news_swap M3
  have hc3 : o3.cls = .type "tuple" := op_tuple po3
  try dsimp only
  repeat' ((fail_if_success (with_reducible show wpAny _ _ (execs (Stmt.Assign [PySem.Expr.Name (PySem.Str.ofString "tag") _] _ _ :: _) _) _ _ _)); (first | ((first | (k_here; (with_reducible show wpAny _ _ (exec (Stmt.For (PySem.Expr.Tuple _ _ _) (PySem.Expr.Call _ _ _ _) _ _ _) _) _ _ _); (rename Fr _ _ _ _ => lF'); (with_unfolding_all refine For_turns lF' ?_)) | (k_here; (with_reducible show wpAny _ _ (call (Value.ref 203) _) _ _ _); k_dflt (refine gmb_cached (by k_asm) (by k_asm) (by k_asm) (by k_asm) (by k_asm) (by k_mem) (by k_mem) (by exact rfl) (by (simp only [depth_deeper, depth_caller]; decide)) ?_); intro h' tk' F' N'; (try k_sweep)) | (k_here; (with_reducible show wpAny _ _ (assign (Expr.Tuple _ _ _) _ (Value.ref _)) _ _ _); k_dflt (refine unpackM (by k_asm) (by k_asm) (by k_asm) (by k_mem) (by exact rfl) (by exact rfl) (by exact rfl) ?_); intro h' F' N'; (try k_sweep)) | walk1); all_goals (try dsimp only); all_goals (try ((with_reducible refine wp_tok ?_); intro tk))) | (dsimp only; (first | (k_here; (with_reducible show wpAny _ _ (exec (Stmt.For (PySem.Expr.Tuple _ _ _) (PySem.Expr.Call _ _ _ _) _ _ _) _) _ _ _); (rename Fr _ _ _ _ => lF'); (with_unfolding_all refine For_turns lF' ?_)) | (k_here; (with_reducible show wpAny _ _ (call (Value.ref 203) _) _ _ _); k_dflt (refine gmb_cached (by k_asm) (by k_asm) (by k_asm) (by k_asm) (by k_asm) (by k_mem) (by k_mem) (by exact rfl) (by (simp only [depth_deeper, depth_caller]; decide)) ?_); intro h' tk' F' N'; (try k_sweep)) | (k_here; (with_reducible show wpAny _ _ (assign (Expr.Tuple _ _ _) _ (Value.ref _)) _ _ _); k_dflt (refine unpackM (by k_asm) (by k_asm) (by k_asm) (by k_mem) (by exact rfl) (by exact rfl) (by exact rfl) ?_); intro h' F' N'; (try k_sweep)) | walk1)) | ((change UnrEndW _ _ _ _ _ _); ktu_end)))
  rename Fr g _ _ _ => F9
  rename News g _ _ _ => N9
  exact k _ y0 y1 y2 y3 o0 o1 o2 o3 _ _ _ _ F9 (news_sub N9 (by repeat (first | exact List.forall_mem_nil _ | refine List.forall_mem_cons.mpr ⟨by k_mem, ?_⟩))) po0 po1 po2 po3
set_option maxHeartbeats 4000000 in
theorem opcA {w : World} {e1 : Env} {s : Shared} {g base : Heap} {outer : List Env} {L M dM la lb D S1 S x0 x1 x2 x3 d0 d1 d2 d3 : Addr} {mg mb : Str → Option Value} {mean : ExcName → Option Value} {t : Nat → Tok} {vbp : Value} {Q : Flow → Shared → Prop} {c : Nat}
    {a1 b1 c1 a2 b2 c2 na nb : Int} {p0 p1 p2 p3 p4 p5 p6 p7 p8 p9 p10 p11 : Tok}
    (X : (K w.params).In g) (T : Top qv (looseW qv loose) mean mg mb g) (B : Below (callerA.deeper e1) base outer g)
    (F : Fr g L s.heap (fun y => List.lookup y [(Str.ofString "self", Value.ref M)].reverse))
    (N : News g L s.heap [(M, instObj 242 dM), (dM, flmD w.params t la lb (.ref S) .none D S1 vbp), (S, listOf #[.ref x0, .ref x1, .ref x2, .ref x3] c), (x0, mObj d0 (.int 0 p0) (.int 0 p1) (.int (0 + 1) p2)), (x1, mObj d1 (.int a1 p3) (.int b1 p4) (.int c1 p5)), (x2, mObj d2 (.int a2 p6) (.int b2 p7) (.int c2 p8)), (x3, mObj d3 (.int na p9) (.int nb p10) (.int 0 p11))])
    (o1 : @LT.lt Nat _ dM M) (o2 : @LT.lt Nat _ dM S) (o3 : @LT.lt Nat _ S x0) (o4 : @LT.lt Nat _ S x1) (o5 : @LT.lt Nat _ S x2) (o6 : @LT.lt Nat _ S x3)
    (q0 : 1 < a1) (q1 : 1 < b1) (q2 : 0 < c1) (q3 : a1 + c1 = a2) (q4 : b1 + c1 < b2) (q5 : 0 < c2) (q6 : a2 + c2 < na) (q7 : b2 + c2 = nb)
    (k : ∀ l y0 y1 y2 y3 y4 y5 o0 o1 o2 o3 o4 o5 c' h' tk m', Fr g L h' m' → News g L h' [(l, listOf #[.ref y0, .ref y1, .ref y2, .ref y3, .ref y4, .ref y5] c'), (y0, o0), (y1, o1), (y2, o2), (y3, o3), (y4, o4), (y5, o5), (M, instObj 242 dM), (dM, flmD w.params t la lb (.ref S) (.ref l) D S1 vbp), (S, listOf #[.ref x0, .ref x1, .ref x2, .ref x3] c), (x0, mObj d0 (.int 0 p0) (.int 0 p1) (.int (0 + 1) p2)), (x1, mObj d1 (.int a1 p3) (.int b1 p4) (.int c1 p5)), (x2, mObj d2 (.int a2 p6) (.int b2 p7) (.int c2 p8)), (x3, mObj d3 (.int na p9) (.int nb p10) (.int 0 p11))] → Op o0 "equal" (0) (1) (0) (1) → Op o1 "replace" (1) (a1) (1) (b1) → Op o2 "equal" (a1) (a1 + c1) (b1) (b1 + c1) → Op o3 "insert" (a1 + c1) (a2) (b1 + c1) (b2) → Op o4 "equal" (a2) (a2 + c2) (b2) (b2 + c2) → Op o5 "delete" (a2 + c2) (na) (b2 + c2) (nb) → Q (.ret (.ref l)) { s with heap := h', toks := tk }) :
    wpAny (model pw w) ((callerA.deeper e1).deeper (envO L)) (execs B210 (envO L)) Q (fun _ _ => False) s := by
  conv in B210 => whnf
  show wpAny _ _ (execs _ _) _ _ _
  obtain ⟨hp, gn, dr, tk, os⟩ := s
  dsimp only at F N k
  repeat' ((fail_if_success (with_reducible show wpAny _ _ (execs (Stmt.Assign [PySem.Expr.Name (PySem.Str.ofString "tag") _] _ _ :: _) _) _ _ _)); (first | ((first | (k_here; (with_reducible show wpAny _ _ (exec (Stmt.For (PySem.Expr.Tuple _ _ _) (PySem.Expr.Call _ _ _ _) _ _ _) _) _ _ _); (rename Fr _ _ _ _ => lF'); (with_unfolding_all refine For_turns lF' ?_)) | (k_here; (with_reducible show wpAny _ _ (call (Value.ref 203) _) _ _ _); k_dflt (refine gmb_cached (by k_asm) (by k_asm) (by k_asm) (by k_asm) (by k_asm) (by k_mem) (by k_mem) (by exact rfl) (by (simp only [depth_deeper, depth_caller]; decide)) ?_); intro h' tk' F' N'; (try k_sweep)) | (k_here; (with_reducible show wpAny _ _ (assign (Expr.Tuple _ _ _) _ (Value.ref _)) _ _ _); k_dflt (refine unpackM (by k_asm) (by k_asm) (by k_asm) (by k_mem) (by exact rfl) (by exact rfl) (by exact rfl) ?_); intro h' F' N'; (try k_sweep)) | walk1); all_goals (try dsimp only); all_goals (try ((with_reducible refine wp_tok ?_); intro tk))) | (dsimp only; (first | (k_here; (with_reducible show wpAny _ _ (exec (Stmt.For (PySem.Expr.Tuple _ _ _) (PySem.Expr.Call _ _ _ _) _ _ _) _) _ _ _); (rename Fr _ _ _ _ => lF'); (with_unfolding_all refine For_turns lF' ?_)) | (k_here; (with_reducible show wpAny _ _ (call (Value.ref 203) _) _ _ _); k_dflt (refine gmb_cached (by k_asm) (by k_asm) (by k_asm) (by k_asm) (by k_asm) (by k_mem) (by k_mem) (by exact rfl) (by (simp only [depth_deeper, depth_caller]; decide)) ?_); intro h' tk' F' N'; (try k_sweep)) | (k_here; (with_reducible show wpAny _ _ (assign (Expr.Tuple _ _ _) _ (Value.ref _)) _ _ _); k_dflt (refine unpackM (by k_asm) (by k_asm) (by k_asm) (by k_mem) (by exact rfl) (by exact rfl) (by exact rfl) ?_); intro h' F' N'; (try k_sweep)) | walk1)) | ((change UnrEndW _ _ _ _ _ _); ktu_end)))
  rename Fr g L _ _ => F1
  rename News g L _ _ => N1
  refine turn_EU X T (fr_over (S := oI _ (.int 0 _) (.int 0 _) (.int (0 + 1) _) (.int 0 _) (.int 0 _)) F1 (by repeat (first | exact List.forall_mem_nil _ | refine List.forall_mem_cons.mpr ⟨rfl, ?_⟩))) N1 (by k_updF) (Nat.le_of_ble_eq_true rfl) (by omega) (by omega) (by omega) ?_
  clear F1 N1
  intro y0 o0 nn1 h1 tk1 m1 w1 z1 G1 M1 po0 ne0
  try dsimp only at M1
  replace M1 := news_swap M1
  have hc0 : o0.cls = .type "tuple" := op_tuple po0
  try dsimp only
  repeat' ((fail_if_success (with_reducible show wpAny _ _ (execs (Stmt.Assign [PySem.Expr.Name (PySem.Str.ofString "tag") _] _ _ :: _) _) _ _ _)); (first | ((first | (k_here; (with_reducible show wpAny _ _ (exec (Stmt.For (PySem.Expr.Tuple _ _ _) (PySem.Expr.Call _ _ _ _) _ _ _) _) _ _ _); (rename Fr _ _ _ _ => lF'); (with_unfolding_all refine For_turns lF' ?_)) | (k_here; (with_reducible show wpAny _ _ (call (Value.ref 203) _) _ _ _); k_dflt (refine gmb_cached (by k_asm) (by k_asm) (by k_asm) (by k_asm) (by k_asm) (by k_mem) (by k_mem) (by exact rfl) (by (simp only [depth_deeper, depth_caller]; decide)) ?_); intro h' tk' F' N'; (try k_sweep)) | (k_here; (with_reducible show wpAny _ _ (assign (Expr.Tuple _ _ _) _ (Value.ref _)) _ _ _); k_dflt (refine unpackM (by k_asm) (by k_asm) (by k_asm) (by k_mem) (by exact rfl) (by exact rfl) (by exact rfl) ?_); intro h' F' N'; (try k_sweep)) | walk1); all_goals (try dsimp only); all_goals (try ((with_reducible refine wp_tok ?_); intro tk))) | (dsimp only; (first | (k_here; (with_reducible show wpAny _ _ (exec (Stmt.For (PySem.Expr.Tuple _ _ _) (PySem.Expr.Call _ _ _ _) _ _ _) _) _ _ _); (rename Fr _ _ _ _ => lF'); (with_unfolding_all refine For_turns lF' ?_)) | (k_here; (with_reducible show wpAny _ _ (call (Value.ref 203) _) _ _ _); k_dflt (refine gmb_cached (by k_asm) (by k_asm) (by k_asm) (by k_asm) (by k_asm) (by k_mem) (by k_mem) (by exact rfl) (by (simp only [depth_deeper, depth_caller]; decide)) ?_); intro h' tk' F' N'; (try k_sweep)) | (k_here; (with_reducible show wpAny _ _ (assign (Expr.Tuple _ _ _) _ (Value.ref _)) _ _ _); k_dflt (refine unpackM (by k_asm) (by k_asm) (by k_asm) (by k_mem) (by exact rfl) (by exact rfl) (by exact rfl) ?_); intro h' F' N'; (try k_sweep)) | walk1)) | ((change UnrEndW _ _ _ _ _ _); ktu_end)))
  rename Fr g L _ _ => F2
  rename News g L _ _ => N2
  refine turn_REU X T (fr_over (S := oI _ (.int a1 _) (.int b1 _) (.int c1 _) (.int (0 + (0 + 1)) _) (.int (0 + (0 + 1)) _)) F2 (by repeat (first | exact List.forall_mem_nil _ | refine List.forall_mem_cons.mpr ⟨rfl, ?_⟩))) N2 (by k_updF) (Nat.le_of_ble_eq_true rfl) (by omega) (by omega) (by omega) ?_
  clear F2 N2
  intro y1 y2 o1 o2 nn2 h2 tk2 m2 w2 z2 G2 M2 po1 po2 ne1 ne2
  try dsimp only at M2
  replace M2 := news_rot M2
  have hc1 : o1.cls = .type "tuple" := op_tuple po1
  have hc2 : o2.cls = .type "tuple" := op_tuple po2
  try dsimp only
  repeat' ((fail_if_success (with_reducible show wpAny _ _ (execs (Stmt.Assign [PySem.Expr.Name (PySem.Str.ofString "tag") _] _ _ :: _) _) _ _ _)); (first | ((first | (k_here; (with_reducible show wpAny _ _ (exec (Stmt.For (PySem.Expr.Tuple _ _ _) (PySem.Expr.Call _ _ _ _) _ _ _) _) _ _ _); (rename Fr _ _ _ _ => lF'); (with_unfolding_all refine For_turns lF' ?_)) | (k_here; (with_reducible show wpAny _ _ (call (Value.ref 203) _) _ _ _); k_dflt (refine gmb_cached (by k_asm) (by k_asm) (by k_asm) (by k_asm) (by k_asm) (by k_mem) (by k_mem) (by exact rfl) (by (simp only [depth_deeper, depth_caller]; decide)) ?_); intro h' tk' F' N'; (try k_sweep)) | (k_here; (with_reducible show wpAny _ _ (assign (Expr.Tuple _ _ _) _ (Value.ref _)) _ _ _); k_dflt (refine unpackM (by k_asm) (by k_asm) (by k_asm) (by k_mem) (by exact rfl) (by exact rfl) (by exact rfl) ?_); intro h' F' N'; (try k_sweep)) | walk1); all_goals (try dsimp only); all_goals (try ((with_reducible refine wp_tok ?_); intro tk))) | (dsimp only; (first | (k_here; (with_reducible show wpAny _ _ (exec (Stmt.For (PySem.Expr.Tuple _ _ _) (PySem.Expr.Call _ _ _ _) _ _ _) _) _ _ _); (rename Fr _ _ _ _ => lF'); (with_unfolding_all refine For_turns lF' ?_)) | (k_here; (with_reducible show wpAny _ _ (call (Value.ref 203) _) _ _ _); k_dflt (refine gmb_cached (by k_asm) (by k_asm) (by k_asm) (by k_asm) (by k_asm) (by k_mem) (by k_mem) (by exact rfl) (by (simp only [depth_deeper, depth_caller]; decide)) ?_); intro h' tk' F' N'; (try k_sweep)) | (k_here; (with_reducible show wpAny _ _ (assign (Expr.Tuple _ _ _) _ (Value.ref _)) _ _ _); k_dflt (refine unpackM (by k_asm) (by k_asm) (by k_asm) (by k_mem) (by exact rfl) (by exact rfl) (by exact rfl) ?_); intro h' F' N'; (try k_sweep)) | walk1)) | ((change UnrEndW _ _ _ _ _ _); ktu_end)))
  rename Fr g L _ _ => F3
  rename News g L _ _ => N3
  refine turn_IEU X T (fr_over (S := oI _ (.int a2 _) (.int b2 _) (.int c2 _) (.int (a1 + c1) _) (.int (b1 + c1) _)) F3 (by repeat (first | exact List.forall_mem_nil _ | refine List.forall_mem_cons.mpr ⟨rfl, ?_⟩))) N3 (by k_updF) (Nat.le_of_ble_eq_true rfl) (by omega) (by omega) (by omega) ?_
  clear F3 N3
  intro y3 y4 o3 o4 nn3 h3 tk3 m3 w3 z3 G3 M3 po3 po4 ne3 ne4
  try dsimp only at M3
  replace M3 := news_rot M3
  have hc3 : o3.cls = .type "tuple" := op_tuple po3
  have hc4 : o4.cls = .type "tuple" := op_tuple po4
  try dsimp only
  repeat' ((fail_if_success (with_reducible show wpAny _ _ (execs (Stmt.Assign [PySem.Expr.Name (PySem.Str.ofString "tag") _] _ _ :: _) _) _ _ _)); (first | ((first | (k_here; (with_reducible show wpAny _ _ (exec (Stmt.For (PySem.Expr.Tuple _ _ _) (PySem.Expr.Call _ _ _ _) _ _ _) _) _ _ _); (rename Fr _ _ _ _ => lF'); (with_unfolding_all refine For_turns lF' ?_)) | (k_here; (with_reducible show wpAny _ _ (call (Value.ref 203) _) _ _ _); k_dflt (refine gmb_cached (by k_asm) (by k_asm) (by k_asm) (by k_asm) (by k_asm) (by k_mem) (by k_mem) (by exact rfl) (by (simp only [depth_deeper, depth_caller]; decide)) ?_); intro h' tk' F' N'; (try k_sweep)) | (k_here; (with_reducible show wpAny _ _ (assign (Expr.Tuple _ _ _) _ (Value.ref _)) _ _ _); k_dflt (refine unpackM (by k_asm) (by k_asm) (by k_asm) (by k_mem) (by exact rfl) (by exact rfl) (by exact rfl) ?_); intro h' F' N'; (try k_sweep)) | walk1); all_goals (try dsimp only); all_goals (try ((with_reducible refine wp_tok ?_); intro tk))) | (dsimp only; (first | (k_here; (with_reducible show wpAny _ _ (exec (Stmt.For (PySem.Expr.Tuple _ _ _) (PySem.Expr.Call _ _ _ _) _ _ _) _) _ _ _); (rename Fr _ _ _ _ => lF'); (with_unfolding_all refine For_turns lF' ?_)) | (k_here; (with_reducible show wpAny _ _ (call (Value.ref 203) _) _ _ _); k_dflt (refine gmb_cached (by k_asm) (by k_asm) (by k_asm) (by k_asm) (by k_asm) (by k_mem) (by k_mem) (by exact rfl) (by (simp only [depth_deeper, depth_caller]; decide)) ?_); intro h' tk' F' N'; (try k_sweep)) | (k_here; (with_reducible show wpAny _ _ (assign (Expr.Tuple _ _ _) _ (Value.ref _)) _ _ _); k_dflt (refine unpackM (by k_asm) (by k_asm) (by k_asm) (by k_mem) (by exact rfl) (by exact rfl) (by exact rfl) ?_); intro h' F' N'; (try k_sweep)) | walk1)) | ((change UnrEndW _ _ _ _ _ _); ktu_end)))
  rename Fr g L _ _ => F4
  rename News g L _ _ => N4
  refine turn_D0U X T (fr_over (S := oI _ (.int na _) (.int nb _) (.int 0 _) (.int (a2 + c2) _) (.int (b2 + c2) _)) F4 (by repeat (first | exact List.forall_mem_nil _ | refine List.forall_mem_cons.mpr ⟨rfl, ?_⟩))) N4 (by k_updF) (Nat.le_of_ble_eq_true rfl) (by omega) (by omega) (by omega) ?_
  clear F4 N4
  intro y5 o5 nn4 h4 tk4 m4 w4 z4 G4 M4 po5 ne5
  try dsimp only at M4
  replace M4 := news_swap M4
  have hc5 : o5.cls = .type "tuple" := op_tuple po5
  try dsimp only
  repeat' ((fail_if_success (with_reducible show wpAny _ _ (execs (Stmt.Assign [PySem.Expr.Name (PySem.Str.ofString "tag") _] _ _ :: _) _) _ _ _)); (first | ((first | (k_here; (with_reducible show wpAny _ _ (exec (Stmt.For (PySem.Expr.Tuple _ _ _) (PySem.Expr.Call _ _ _ _) _ _ _) _) _ _ _); (rename Fr _ _ _ _ => lF'); (with_unfolding_all refine For_turns lF' ?_)) | (k_here; (with_reducible show wpAny _ _ (call (Value.ref 203) _) _ _ _); k_dflt (refine gmb_cached (by k_asm) (by k_asm) (by k_asm) (by k_asm) (by k_asm) (by k_mem) (by k_mem) (by exact rfl) (by (simp only [depth_deeper, depth_caller]; decide)) ?_); intro h' tk' F' N'; (try k_sweep)) | (k_here; (with_reducible show wpAny _ _ (assign (Expr.Tuple _ _ _) _ (Value.ref _)) _ _ _); k_dflt (refine unpackM (by k_asm) (by k_asm) (by k_asm) (by k_mem) (by exact rfl) (by exact rfl) (by exact rfl) ?_); intro h' F' N'; (try k_sweep)) | walk1); all_goals (try dsimp only); all_goals (try ((with_reducible refine wp_tok ?_); intro tk))) | (dsimp only; (first | (k_here; (with_reducible show wpAny _ _ (exec (Stmt.For (PySem.Expr.Tuple _ _ _) (PySem.Expr.Call _ _ _ _) _ _ _) _) _ _ _); (rename Fr _ _ _ _ => lF'); (with_unfolding_all refine For_turns lF' ?_)) | (k_here; (with_reducible show wpAny _ _ (call (Value.ref 203) _) _ _ _); k_dflt (refine gmb_cached (by k_asm) (by k_asm) (by k_asm) (by k_asm) (by k_asm) (by k_mem) (by k_mem) (by exact rfl) (by (simp only [depth_deeper, depth_caller]; decide)) ?_); intro h' tk' F' N'; (try k_sweep)) | (k_here; (with_reducible show wpAny _ _ (assign (Expr.Tuple _ _ _) _ (Value.ref _)) _ _ _); k_dflt (refine unpackM (by k_asm) (by k_asm) (by k_asm) (by k_mem) (by exact rfl) (by exact rfl) (by exact rfl) ?_); intro h' F' N'; (try k_sweep)) | walk1)) | ((change UnrEndW _ _ _ _ _ _); ktu_end)))
  rename Fr g _ _ _ => F9
  rename News g _ _ _ => N9
  exact k _ y0 y1 y2 y3 y4 y5 o0 o1 o2 o3 o4 o5 _ _ _ _ F9 (news_sub N9 (by repeat (first | exact List.forall_mem_nil _ | refine List.forall_mem_cons.mpr ⟨by k_mem, ?_⟩))) po0 po1 po2 po3 po4 po5
end Mine
end
section
open PySem PySem.W PySem.Calls PyProof.Rows PySem.SeqAt
set_option maxRecDepth 100000
namespace Mine
section
variable {A : Around} {s : Shared} {x dx tp : Addr} {P : Params}
set_option maxHeartbeats 1000000 in
theorem rc_match {a b c : Int} {t1 t2 t3 u1 u2 u3 : Tok} (X : (K P).In s.heap) (hx : s.heap.get? x = some (mObj dx (.int a t1) (.int b t2) (.int c t3))) (ht : s.heap.get? tp = some (tup3 (.int a u1) (.int b u2) (.int c u3))) (hu : A.units < cLine) :
    RcAt A s (.ref x) (.ref tp) true := fun prog w E Q hq => by
  have tt : Looks (model prog w) s.heap (typeOf (.ref tp)) (.type "tuple") := (Looks.ld ht).andThen .now
  have it : Looks (model prog w) s.heap (isInstance (.ref tp) (.type "tuple")) true := tt.andThen (looks_subIn X (by kernel_rfl))
  have sb : Looks (model prog w) s.heap (isSubtype (.type "tuple") (.ref 135)) false := looks_subIn X (by kernel_rfl)
  have one : wpAny (model prog w) A (tryCompare (.ref x) (cmpInfo .Eq).2.1 (.ref tp)) (fun r s' => ∃ v, r = some v ∧ Q v s') E s := by
    unfold tryCompare callSpecialIfBound?
    refine wpAny_bind (wpAny_holding (wpAny_bind ((ifBound_look (special_match X hx (find_eq _)) (PySem.F.slot_tuple_eq.bind _)).here ?_)))
    dsimp only
    refine wpAny_bind (wpAny_call (codeAny_call_builtin PySem.F.slot_tuple_eq.plain PySem.F.entry_tuple_eq (@check_slot (model prog w) _ _ s "tuple.__eq__" "tuple" "__eq__" (.ref x) [.ref tp] [] _ (by decide +kernel) (by decide +kernel) (inst_match X hx) (PySem.F.args_tuple_eq_2 _ _) ?_)))
    unfold Builtin.«tuple.__eq__»
    obtain ⟨hh, g, d, tk, os⟩ := s
    dsimp only at hx ht X hq it
    repeat (first | with_reducible refine wpAny_eqBool_int ?_ | rw [beq_self_eq_true] | lk)
    exact ⟨_, rfl, hq⟩
  unfold richCompare
  simp only [oneThing_ref]
  refine wpAny_holding (wpAny_bind (wpAny_cRoomFor hu ?_))
  refine wpAny_bind ((type_match hx).here (wpAny_bind (tt.here ?_)))
  split
  · refine wpAny_bind (sb.here ?_)
    simp only [Bool.false_eq_true, if_false]
    refine wpAny_bind (wpAny_mono one (fun r s' z => ?_) fun _ _ e => e)
    obtain ⟨v, rfl, hq⟩ := z
    exact wpAny_pure hq
  · refine wpAny_bind (wpAny_pure ?_)
    simp only [Bool.false_eq_true, if_false]
    refine wpAny_bind (wpAny_mono one (fun r s' z => ?_) fun _ _ e => e)
    obtain ⟨v, rfl, hq⟩ := z
    exact wpAny_pure hq
theorem eqAt_match {a b c : Int} {t1 t2 t3 u1 u2 u3 : Tok} (X : (K P).In s.heap) (hx : s.heap.get? x = some (mObj dx (.int a t1) (.int b t2) (.int c t3))) (ht : s.heap.get? tp = some (tup3 (.int a u1) (.int b u2) (.int c u3))) (hu : A.units < cLine) :
    EqAt A s (.ref x) (.ref tp) true := by
  refine EqAt.of_refs (fun e => ?_) (rc_match X hx ht hu)
  rw [e, ht] at hx; cases hx
theorem eqAt_op {y z : Addr} {o1 o2 : Obj} {tag : String} {a b c d a' b' c' d' : Int} (h1 : s.heap.get? y = some o1) (h2 : s.heap.get? z = some o2) (p1 : Op o1 tag a b c d) (p2 : Op o2 tag a' b' c' d') (ea : a = a') (eb : b = b') (ec : c = c') (ed : d = d') (hu : A.units < cLine) :
    EqAt A s (.ref y) (.ref z) true := by
  subst ea eb ec ed
  by_cases e : y = z
  · subst e; exact EqAt.same _
  · obtain ⟨t0, t1, t2, t3, t4, rfl⟩ := p1
    obtain ⟨r0, r1, r2, r3, r4, rfl⟩ := p2
    have := RcAt.tuples (A := A) (s := s) (l := y) (b := z) (items := #[.str (Str.ofString tag) t0, .int a t1, .int b t2, .int c t3, .int d t4]) (items2 := #[.str (Str.ofString tag) r0, .int a r1, .int b r2, .int c r3, .int d r4]) (e := fun _ => true) ⟨_, h1, rfl, 0, rfl⟩ ⟨_, h2, rfl, 0, rfl⟩ hu (fun j j1 j2 => ?_)
    · exact EqAt.of_refs e this
    · match j, j1 with
      | 0, _ => have := EqAt.str_str (A := A.in1) (s := s) (Str.ofString tag) t0 (Str.ofString tag) r0; rwa [beq_self_eq_true] at this
      | 1, _ => have := EqAt.int_int (A := A.in1) (s := s) a t1 a r1; rwa [beq_self_eq_true] at this
      | 2, _ => have := EqAt.int_int (A := A.in1) (s := s) b t2 b r2; rwa [beq_self_eq_true] at this
      | 3, _ => have := EqAt.int_int (A := A.in1) (s := s) c t3 c r3; rwa [beq_self_eq_true] at this
      | 4, _ => have := EqAt.int_int (A := A.in1) (s := s) d t4 d r4; rwa [beq_self_eq_true] at this
end
section
variable {w : World} {A : Around} {E : Value → Shared → Prop} {s : Shared} {l1 l2 : Addr} {v1 v2 : List Value} {Q : Value → Shared → Prop}
theorem ne_lists (h1 : s.heap.IsList l1 v1.toArray) (h2 : s.heap.IsList l2 v2.toArray) (hl : v1.length = v2.length) (hu : A.units < cLine) (he : ∀ j (a : j < v1.length) (b : j < v2.length), EqAt A.in1 s v1[j] v2[j] true) (h : Q (.bool false) s) :
    wpAny (model pw w) A (compareOp .NotEq (.ref l1) (.ref l2)) Q E s := by
  refine cmp_ofNotEq (RcNeAt.lists (e := fun _ => true) h1 h2 (by simpa using hl) hu (fun j a b => by simpa using he j (by simpa using a) (by simpa using b)) pw w E Q ?_)
  have e : (!(List.range v1.toArray.size).all fun _ => true) = false := by simp
  rw [e]; exact h
end
end Mine
end
section
open PySem PySem.W PySem.Calls PyProof.Rows
set_option maxRecDepth 100000
namespace Mine
theorem ready_of {w : World} {h₀ h : Heap} {L M dM la lb D J : Addr} {t : Nat → Tok} {tb post : List (Addr × Obj)} {vbp : Value} {od : Obj} {as bs : List Int} {va vb : List Value} {ca cb : Nat}
    (N : News h₀ L h ((M, instObj 242 dM) :: (dM, od) :: (tb ++ post))) (tab : Tab w tb M dM D J bs) (o1 : @LT.lt Nat _ dM M) (hoff : ∀ p ∈ post, p.1 ≠ M ∧ p.1 ≠ dM)
    (hla : (la, listOf va.toArray ca) ∈ post) (hva : IntsAre va as) (hlb : (lb, listOf vb.toArray cb) ∈ post) (hvb : IntsAre vb bs) (ral : (as.length : Int) < 100000) (rbl : (bs.length : Int) < 100000) :
    Ready w h M dM t la lb .none .none D J vbp as bs := by
  have up : ∀ p ∈ tb, h.get? p.1 = some p.2 := fun p hp => (N p (.tail _ (.tail _ (List.mem_append_left _ hp)))).1
  have up2 : ∀ p ∈ post, h.get? p.1 = some p.2 := fun p hp => (N p (.tail _ (.tail _ (List.mem_append_right _ hp)))).1
  obtain ⟨toff, tdn, ⟨oD, ent, hD, hd, hb, hls⟩, ⟨oJ, hJ, hj⟩⟩ := tab
  have a1 := hoff _ hla
  have a2 := hoff _ hlb
  have a3 := toff _ hD
  have a4 := toff _ hJ
  refine ⟨Ne.symm (Nat.ne_of_lt o1), ⟨a1.1, a1.2, a2.1, a2.2, a3.1, a3.2, a4.1, a4.2⟩, ⟨va, ⟨_, up2 _ hla, rfl, ca, rfl⟩, hva⟩, ⟨vb, ⟨_, up2 _ hlb, rfl, cb, rfl⟩, hvb⟩, ral, rbl, ⟨0, ?_⟩, tdn, ⟨valueAt (kvE ent), hd.mapOf (up _ hD), fun v => ?_⟩⟩
  · obtain ⟨x1, es, ep, tt, x2, x3, x4, x5, x6⟩ := hj
    exact ⟨oJ, es, ep, tt, up _ hJ, x1, x2, x3, x4, by rw [x5]; decide, x6, x5⟩
  · rcases valueAt_ent (v := v) hb.keys with ⟨q1, q2⟩ | ⟨e, he, q1, q2⟩
    · exact .inl ⟨q1, hb.miss v q2⟩
    · obtain ⟨vj, c, e1, e2⟩ := hb.list e he
      have me : e.2 ∈ tb := hls _ (List.mem_map_of_mem he)
      have z := toff _ me
      refine .inr ⟨e.2.1, vj, q2, z.1, z.2, ⟨_, (up _ me).trans (by rw [e1]), rfl, c, rfl⟩, by rw [← q1]; exact e2⟩
end Mine
end
section
open PySem PySem.W PySem.Calls PyProof.Rows
set_option maxRecDepth 100000
namespace Mine
section
variable {h₀ h : Heap} {L : Addr} {news : List (Addr × Obj)}
/-- the ledger less what is handed over -/
noncomputable def restOf (news hand : List (Addr × Obj)) : List (Addr × Obj) := news.filter fun p => decide (p.1 ∉ hand.map (·.1))
theorem restOf_off {news hand : List (Addr × Obj)} {p : Addr × Obj} (hp : p ∈ restOf news hand) : p.1 ∉ hand.map (·.1) := by
  have := (List.mem_filter.mp hp).2
  simpa using this
theorem restOf_mem {news hand : List (Addr × Obj)} {p : Addr × Obj} (hp : p ∈ restOf news hand) : p ∈ news := (List.mem_filter.mp hp).1
theorem hand_or (N : News h₀ L h news) {hand : List (Addr × Obj)} (hh : ∀ p ∈ hand, p ∈ news) {p : Addr × Obj} (hp : p ∈ news) : p ∈ hand ∨ p ∈ restOf news hand := by
  by_cases q : p.1 ∈ hand.map (·.1)
  · obtain ⟨e, he, q⟩ := List.mem_map.mp q
    refine .inl ?_
    have a := (N p hp).1
    have b := (N e (hh e he)).1
    rw [q, a] at b
    have : p = e := Prod.ext q.symm (Option.some.inj b)
    rw [this]; exact he
  · exact .inr (List.mem_filter.mpr ⟨hp, by simpa using q⟩)
theorem hand_news (N : News h₀ L h news) {hand : List (Addr × Obj)} (hh : ∀ p ∈ hand, p ∈ news) : News h₀ L h (hand ++ restOf news hand) := fun p hp => (List.mem_append.mp hp).elim (fun q => N p (hh p q)) fun q => N p (restOf_mem q)
/-- back behind the call: what was handed over is as told, the rest as it was; dM's object alone has changed -/
theorem hand_back {h' : Heap} {hand : List (Addr × Obj)} {M dM : Addr} {o o' : Obj} {gg : Obj → List (Addr × Obj)} (N : News h₀ L h news) (hh : ∀ p ∈ hand, p ∈ news) (U : UpdF dM o news gg)
    (hback : ∀ p ∈ hand, p.1 ≠ dM → News h₀ L h' [p]) (hd : News h₀ L h' [(dM, o')]) (hrest : News h₀ L h' (restOf news hand)) : News h₀ L h' (gg o') := by
  obtain ⟨pre, post, e, hg, x1, x2⟩ := U.split
  rw [hg]
  intro p hp
  have other : p ∈ news → p.1 ≠ dM → h'.get? p.1 = some p.2 ∧ p.1 ≠ L ∧ h₀.get? p.1 = none := fun hm hne => by
    rcases hand_or N hh hm with q | q
    · exact hback p q hne p (.head _)
    · exact hrest p q
  rcases List.mem_append.mp hp with hp | hp
  · exact other (by rw [e]; exact List.mem_append_left _ hp) (x1 p hp)
  · rcases List.mem_cons.mp hp with rfl | hp
    · exact hd _ (.head _)
    · exact other (by rw [e]; exact List.mem_append_right _ (.tail _ hp)) (x2 p hp)
theorem news_app {a b : List (Addr × Obj)} (N1 : News h₀ L h a) (N2 : News h₀ L h b) : News h₀ L h (a ++ b) := fun p hp => (List.mem_append.mp hp).elim (N1 p) (N2 p)
theorem upd_in {D : Addr} {o : Obj} {news : List (Addr × Obj)} {g : Obj → List (Addr × Obj)} (U : UpdF D o news g) : (D, o) ∈ news := by
  obtain ⟨pre, post, e, _⟩ := U.split
  rw [e]; exact List.mem_append_right _ (.head _)
theorem ne_of_cls {a b : Addr} {oa ob : Obj} (N : News h₀ L h news) (ha : (a, oa) ∈ news) (hb : (b, ob) ∈ news) (hc : oa.cls ≠ ob.cls) : a ≠ b := fun e => by
  have x := (N _ ha).1
  have y := (N _ hb).1
  simp only at x y
  rw [e, y] at x
  cases x; exact hc rfl
end
theorem seqsU {w : World} {E : Value → Shared → Prop} {s : Shared} {base h₀ : Heap} {outer : List Env} {L a : Addr} {m mg mb : Str → Option Value} {cn : Str} {cs : Scope} {ccd : Value} {mean : ExcName → Option Value} {news : List (Addr × Obj)} {gg : Obj → List (Addr × Obj)}
    {M dM la lb la0 lb0 : Addr} {t : Nat → Tok} {vmb vop vfb vb2j vbj vbp : Value} {xa0 xb0 xa xb : Array Value} {c1 c2 c3 c4 : Nat} {bs : List Int} {Q : Value → Shared → Prop}
    (X : (K w.params).In h₀) (T : Top qv (looseW qv loose) mean mg mb h₀) (B : Below callerA base outer h₀)
    (F : Fr h₀ L s.heap m) (N : News h₀ L s.heap news) (hM : (M, instObj 242 dM) ∈ news) (U : UpdF dM (sD w.params t (.ref la0) (.ref lb0) vmb vop vfb vb2j vbj vbp) news gg)
    (hcs : cs.kind = .function) (o1 : @LT.lt Nat _ dM M) (ha0 : (la0, listOf xa0 c1) ∈ news) (hb0 : (lb0, listOf xb0 c2) ∈ news) (ha : (la, listOf xa c3) ∈ news) (hb : (lb, listOf xb c4) ∈ news) (hvb : IntsAre xb.toList bs) (hlen : bs.length < 100000)
    (na : la ≠ la0) (nb : lb ≠ lb0)
    (k : ∀ h' tk D J P tb, Fr h₀ L h' m → News h₀ L h' (gg (chD w.params t (.ref la) (.ref lb) (.ref D) (.ref J) (.ref P)) ++ tb) → Tab w tb M dM D J bs → Q .none { s with heap := h', toks := tk }) :
    wpAny (model pw w) (callerA.deeper (envOf cn cs L a ccd)) (call (.ref 167) [.ref M, .ref la, .ref lb]) Q E s := by
  have hdM := upd_in U
  have hh : ∀ p ∈ [(M, instObj 242 dM), (dM, sD w.params t (.ref la0) (.ref lb0) vmb vop vfb vb2j vbj vbp)], p ∈ news := fun p hp => by
    simp only [List.mem_cons, List.not_mem_nil, or_false] at hp
    rcases hp with rfl | rfl
    · exact hM
    · exact hdM
  have il : ∀ {l : Addr} {x : Array Value} {c : Nat}, (l, listOf x c) ∈ news → s.heap.IsList l x.toList.toArray ∧ l ≠ M ∧ l ≠ dM := fun {l x c} hl => by
    rw [Array.toArray_toList]
    exact ⟨⟨_, (N _ hl).1, rfl, c, rfl⟩, ne_of_cls N hl hM (fun e => by cases e), ne_of_cls N hl hdM (fun e => absurd (Value.type.inj e) (by decide))⟩
  refine seqs_call (post := restOf news [(M, instObj 242 dM), (dM, sD w.params t (.ref la0) (.ref lb0) vmb vop vfb vb2j vbj vbp)]) X T B F (hand_news N hh) hcs o1 (il ha0).1 (il hb0).1 (il ha).1 (il hb).1 hvb hlen na nb (il ha0).2 (il hb0).2 (il ha).2 (il hb).2 (fun p hp => by have := restOf_off hp; simpa using this) ?_
  intro h' tk D J P tb F' N' tab
  refine k h' tk D J P tb F' (news_app (hand_back (o' := chD w.params t (.ref la) (.ref lb) (.ref D) (.ref J) (.ref P)) (M := M) N hh U (fun p hp hne => ?_) (fun p hp => ?_) (fun p hp => N' p (.tail _ (.tail _ (List.mem_append_right _ hp))))) (fun p hp => N' p (.tail _ (.tail _ (List.mem_append_left _ hp))))) tab
  · simp only [List.mem_cons, List.not_mem_nil, or_false] at hp
    rcases hp with rfl | rfl
    · intro q hq; rw [List.mem_singleton.mp hq]; exact N' _ (.head _)
    · exact absurd rfl hne
  · rw [List.mem_singleton.mp hp]; exact N' _ (.tail _ (.head _))
end Mine
end
section
open PySem PySem.W PySem.Calls PyProof.Rows
set_option maxRecDepth 100000
namespace Mine
theorem pick7 {g h : Heap} {L : Addr} {a0 a1 a2 a3 a4 a5 a6 : Addr × Obj} (N : News g L h [a0, a1, a2, a3, a4, a5, a6]) : News g L h [a3, a4, a5, a6] := fun p hp => N p (by
  simp only [List.mem_cons, List.not_mem_nil, or_false] at hp ⊢
  rcases hp with h | h | h | h <;> simp [h])
/-- ten tokens as a function -/
noncomputable def tokF (t0 t1 t2 t3 t4 t5 t6 t7 t8 t9 : Tok) : Nat → Tok
  | 0 => t0 | 1 => t1 | 2 => t2 | 3 => t3 | 4 => t4 | 5 => t5 | 6 => t6 | 7 => t7 | 8 => t8 | _ => t9
set_option maxHeartbeats 4000000 in
theorem init_walk {w : World} {E : Value → Shared → Prop} {s : Shared} {base h₀ : Heap} {L a : Addr} {m mg mb : Str → Option Value} {mean : ExcName → Option Value}
    {la lb : Addr} {Q : Value → Shared → Prop} {cd : Value}
    (X : (K w.params).In h₀) (T : Top qv (looseW qv loose) mean mg mb h₀) (B : Below callerA base [] h₀)
    (F : Fr h₀ L s.heap m) (N : News h₀ L s.heap [(lb, listOf #[] 0), (la, listOf #[] 0)]) (o1 : @LT.lt Nat _ la lb)
    (k : ∀ M dM D J P t0 t1 t2 t3 t4 t5 t6 t7 t8 t9 h' tk, Fr h₀ L h' m → News h₀ L h' [(M, instObj 242 dM), (dM, sD w.params (tokF t0 t1 t2 t3 t4 t5 t6 t7 t8 t9) (.ref la) (.ref lb) .none .none .none (.ref D) (.ref J) (.ref P)), (lb, listOf #[] 0), (la, listOf #[] 0)] → @LT.lt Nat _ dM M → @LT.lt Nat _ lb dM → Q (.ref M) { s with heap := h', toks := tk }) :
    wpAny (model pw w) (callerA.deeper (envOf (Str.ofString "law") S253 L a cd)) (call (.ref 242) [.none, .ref la, .ref lb, .bool false]) Q E s := by
  obtain ⟨hp, gn, dr, tk, os⟩ := s
  dsimp only at F N k
  repeat' (first | (walk1; all_goals (try dsimp only); all_goals (try ((with_reducible refine wp_tok ?_); intro tk))) | (dsimp only; walk1))
  rename Fr h₀ L _ m => kF
  rename News h₀ L _ _ => kN
  exact k _ _ _ _ _ _ _ _ _ _ _ _ _ _ _ _ _ kF (pick7 kN) (by omega) (by omega)
end Mine
end
section
open PySem PySem.W PySem.Calls PyProof.Rows
set_option maxRecDepth 100000
namespace Mine
noncomputable abbrev envL (L fa : Addr) (cd : Value) : Env := envOf (Str.ofString "law") S253 L fa cd
noncomputable def LBody : List Stmt := forBody (nth B253 4)
noncomputable def CH1 : List Stmt := (LBody.drop 10).take 2
noncomputable def CH2 : List Stmt := (LBody.drop 12).take 2
theorem tail_in {g h : Heap} {L : Addr} {a tb : List (Addr × Obj)} (uN : News g L h (a ++ tb)) : ∀ p ∈ tb, p ∈ a ++ tb := fun _ hp => List.mem_append_right _ hp
theorem off_app {w : World} {rest tb : List (Addr × Obj)} {M dM D J : Addr} {bs : List Int} (h : ∀ p ∈ rest, p.1 ≠ dM) (tab : Tab w tb M dM D J bs) : ∀ p ∈ rest ++ tb, p.1 ≠ dM := fun p hp => (List.mem_append.mp hp).elim (h p) fun q => (tab.off p q).2
theorem ready_mem {w : World} {h₀ h : Heap} {L M dM la lb D J : Addr} {t : Nat → Tok} {tb news : List (Addr × Obj)} {vbp : Value} {as bs : List Int} {va vb : List Value} {ca cb : Nat}
    (N : News h₀ L h news) (hM : (M, instObj 242 dM) ∈ news) (hdM : (dM, flmD w.params t la lb .none .none D J vbp) ∈ news) (o1 : @LT.lt Nat _ dM M) (tab : Tab w tb M dM D J bs) (htb : ∀ p ∈ tb, p ∈ news)
    (hla : (la, listOf va.toArray ca) ∈ news) (hva : IntsAre va as) (hlb : (lb, listOf vb.toArray cb) ∈ news) (hvb : IntsAre vb bs) (ral : (as.length : Int) < 100000) (rbl : (bs.length : Int) < 100000) :
    Ready w h M dM t la lb .none .none D J vbp as bs := by
  have off : ∀ {l : Addr} {v : Array Value} {c : Nat}, (l, listOf v c) ∈ news → l ≠ M ∧ l ≠ dM := fun hl => ⟨ne_of_cls N hl hM (fun e => by cases e), ne_of_cls N hl hdM (fun e => absurd (Value.type.inj e) (by decide))⟩
  refine ready_of (h₀ := h₀) (L := L) (post := [(la, listOf va.toArray ca), (lb, listOf vb.toArray cb)]) (od := flmD w.params t la lb .none .none D J vbp) (fun p hp => N p ?_) tab o1 (fun p hp => ?_) (.head _) hva (.tail _ (.head _)) hvb ral rbl
  · rcases List.mem_cons.mp hp with rfl | hp
    · exact hM
    · rcases List.mem_cons.mp hp with rfl | hp
      · exact hdM
      · rcases List.mem_append.mp hp with hp | hp
        · exact htb p hp
        · simp only [List.mem_cons, List.not_mem_nil, or_false] at hp
          rcases hp with rfl | rfl
          · exact hla
          · exact hlb
  · simp only [List.mem_cons, List.not_mem_nil, or_false] at hp
    rcases hp with rfl | rfl
    · exact off hla
    · exact off hlb
end Mine
end
section
open PySem PySem.W PySem.Calls PyProof.Rows
set_option maxRecDepth 100000
namespace Mine
noncomputable def LP1 : List Stmt := LBody.take 10
theorem len_led {prog : Program} {w : World} {A : Around} {E : Value → Shared → Prop} {s : Shared} {h₀ : Heap} {L l : Addr} {news : List (Addr × Obj)} {vs : List Value} {ns : List Int} {c : Nat} {Q : Value → Shared → Prop}
    (N : News h₀ L s.heap news) (hl : (l, listOf vs.toArray c) ∈ news) (hi : IntsAre vs ns) (hn : ns.length ≤ 1000) (h : ∀ t, Q (.int ns.length t) { s with toks := s.toks + 1 + 1 }) : wpAny (model prog w) A (call (.builtin "len") [.ref l]) Q E s := by
  have e : (vs.toArray.size : Int) = ns.length := by simp [hi.length]
  refine len_list (items := vs.toArray) ⟨_, (N _ hl).1, rfl, c, rfl⟩ (by rw [e]; omega) ?_
  rw [e]; exact h _
/-- a block's tuple -/
noncomputable def Tp (o : Obj) (a b c : Int) : Prop := ∃ t0 t1 t2, o = tup3 (.int a t0) (.int b t1) (.int c t2)
/-- the names of a turn -/
noncomputable abbrev lS (ls M lx ly lf lg lt lc bt bc : Addr) (item turn : Value) : List (Str × Value) := [(Str.ofString "matcher", .ref M), (Str.ofString "first", .ref lf), (Str.ofString "second", .ref lg), (Str.ofString "x", .ref lx), (Str.ofString "y", .ref ly), (Str.ofString "there", .ref lt), (Str.ofString "codes", .ref lc), (Str.ofString "back", .ref bt), (Str.ofString "back_codes", .ref bc), (Str.ofString "script", .ref ls), (Str.ofString "item", item), (Str.ofString "turn", turn)]
end Mine
end
theorem Mine.flush5 {M : PySem.Model} {A : PySem.Around} {env : PySem.Env} {E : PySem.Value → PySem.Shared → Prop} {Q : PySem.Flow → PySem.Shared → Prop} {s : PySem.Shared} (h : Q .next s) : PySem.wpAny M A (PySem.execs [] env) Q E s := by first | (walk1; exact h) | exact PySem.wpAny_execs_nil h
section
open PySem PySem.W PySem.Calls PyProof.Rows
set_option maxRecDepth 100000
namespace Mine
noncomputable def LP4 : List Stmt := LBody.drop 14
theorem sum_led {prog : Program} {w : World} {A : Around} {E : Value → Shared → Prop} {s : Shared} {h₀ : Heap} {L l : Addr} {m : Str → Option Value} {news : List (Addr × Obj)} {vs : List Value} {ns : List Int} {c : Nat} {Q : Value → Shared → Prop}
    (hh : A.handled = none) (F : Fr h₀ L s.heap m) (N : News h₀ L s.heap news) (hm : (l, listOf vs.toArray c) ∈ news) (hi : IntsAre vs ns)
    (h : ∀ h' tk t', Fr h₀ L h' m → News h₀ L h' news → Q (.int ns.sum t') { s with heap := h', toks := tk }) :
    wpAny (model prog w) A (call (.builtin "sum") [.ref l]) Q E s := by
  have hl : s.heap.IsList l vs.toArray := ⟨_, (N _ hm).1, rfl, c, rfl⟩
  obtain ⟨xs, hx⟩ := hi.allInts.items
  have hn : numsOf vs.toArray.toList = ns := by rw [show vs.toArray.toList = vs from rfl, hi.numsOf]
  rw [hx] at hl hn
  rw [nums_intItems] at hn
  refine sum_intListG hh hl fun h' tk t' hk => ?_
  have := h h' tk t' (F.keeps hk) (N.grown hk)
  rw [preSum_eq, List.take_of_length_le (by simp), hn]
  exact this
theorem sum_pick {prog : Program} {w : World} {A : Around} {E : Value → Shared → Prop} {s : Shared} {h₀ : Heap} {L l : Addr} {m : Str → Option Value} {news : List (Addr × Obj)} {vs : List Value} {ns : List Int} {lo hi st : Option Int} {c : Nat} {Q : Value → Shared → Prop}
    (hh : A.handled = none) (F : Fr h₀ L s.heap m) (N : News h₀ L s.heap news) (hm : (l, listOf (slicePick vs.toArray lo hi st) c) ∈ news) (hi' : IntsAre vs ns)
    (h : ∀ h' tk t' z, Fr h₀ L h' m → News h₀ L h' news → Q (.int z t') { s with heap := h', toks := tk }) :
    wpAny (model prog w) A (call (.builtin "sum") [.ref l]) Q E s :=
  sum_led hh F N (vs := (slicePick vs.toArray lo hi st).toList) (by rw [Array.toArray_toList]; exact hm) (hi'.pick lo hi st) fun h' tk t' F' N' => h h' tk t' _ F' N'
theorem times_ok (z : Int) : ∃ k : Nat, (1 + z.fmod 9).toNat = k ∧ 1 ≤ k ∧ k ≤ 9 := by
  have h1 := Int.fmod_nonneg_of_pos z (b := 9) (by decide)
  have h2 := Int.fmod_lt_of_pos z (b := 9) (by decide)
  exact ⟨_, rfl, by omega, by omega⟩
theorem times_len (k : Nat) (xs : List Int) : (List.replicate k xs).flatten.length = k * xs.length := by
  induction k with
  | zero => simp
  | succ k ih => rw [List.replicate_succ, List.flatten_cons, List.length_append, ih, Nat.succ_mul]; omega
theorem times_small {z : Int} {xs ys : List Int} (h : (xs.length : Int) ≤ 60) (hy : ys.length ≤ 1000) : (List.replicate (1 + z.fmod 9).toNat xs).flatten.length + ys.length ≤ sizeLine := by
  obtain ⟨k, e, h1, h2⟩ := times_ok z
  rw [e, times_len]
  have : k * xs.length ≤ 9 * 60 := Nat.mul_le_mul h2 (by omega)
  have := sizeLine_eq
  omega
/-- the words of the next turn -/
noncomputable def NextW (xs ys xs' ys' : List Int) : Prop := (xs.length ≤ 60 ∧ ∃ k : Nat, 1 ≤ k ∧ k ≤ 9 ∧ xs' = (List.replicate k xs).flatten ++ ys ∧ ys' = xs) ∨ (¬ xs.length ≤ 60 ∧ xs' = xs ∧ ys' = ys)
theorem nextW_of {z : Int} {xs ys : List Int} (h : (xs.length : Int) ≤ 60) : NextW xs ys ((List.replicate (1 + z.fmod 9).toNat xs).flatten ++ ys) xs := by
  obtain ⟨k, e, h1, h2⟩ := times_ok z
  exact .inl ⟨by omega, k, h1, h2, by rw [e], rfl⟩
local macro_rules | `(tactic| k_all) => `(tactic| assumption)
set_option maxHeartbeats 8000000 in
theorem next_words {w : World} {s : Shared} {h₀ base : Heap} {L fa' M ls lx ly : Addr} {mg mb m : Str → Option Value} {mean : ExcName → Option Value} {cd : Value} {Q : Flow → Shared → Prop} {tn item : Int} {tt ti : Tok} {vx vy vs : List Value} {cx cy : Nat} {xs ys ns : List Int} {rest : List (Addr × Obj)}
    (X : (K w.params).In h₀) (T : Top qv (looseW qv loose) mean mg mb h₀) (B : Below callerA base [] h₀) (hls : h₀.IsList ls vs.toArray) (hns : IntsAre vs ns) (hlen : ns.length ≤ 63)
    (F : Fr h₀ L s.heap (over [(Str.ofString "turn", .int tn tt), (Str.ofString "item", .int item ti), (Str.ofString "x", .ref lx), (Str.ofString "y", .ref ly), (Str.ofString "matcher", .ref M), (Str.ofString "script", .ref ls)] m))
    (N : News h₀ L s.heap ((lx, listOf vx.toArray cx) :: (ly, listOf vy.toArray cy) :: rest)) (hx : IntsAre vx xs) (hy : IntsAre vy ys) (hlx : xs.length ≤ 1000) (hly : ys.length ≤ 1000) (q0 : 0 ≤ tn) (q1 : tn < 7)
    (k : ∀ h' tk lx' ly' vx' vy' cx' cy' xs' ys' m', Fr h₀ L h' (over [(Str.ofString "item", .int item ti), (Str.ofString "x", .ref lx'), (Str.ofString "y", .ref ly'), (Str.ofString "matcher", .ref M), (Str.ofString "script", .ref ls)] m') →
      News h₀ L h' ((lx', listOf (List.toArray vx') cx') :: (ly', listOf (List.toArray vy') cy') :: rest) → IntsAre vx' xs' → IntsAre vy' ys' → NextW xs ys xs' ys' → Q .next { s with heap := h', toks := tk }) :
    wpAny (model pw w) (callerA.deeper (envL L fa' cd)) (execs LP4 (envL L fa' cd)) Q (fun _ _ => False) s := by
  conv in LP4 => whnf
  show wpAny _ _ (execs _ _) _ _ _
  repeat' (first | (first | (k_here; (with_reducible show wpAny _ _ (call (Value.builtin "len") _) _ _ _); k_dflt (refine len_led (by k_asm) (by k_mem) (by assumption) (by assumption) ?_); intro t') | (k_here; (with_reducible show wpAny _ _ (call (Value.builtin "sum") _) _ _ _); k_dflt (refine sum_pick (by rfl) (by k_asm) (by k_asm) (by k_mem) (by assumption) ?_); intro h' tk' t' z' F' N') | (k_here; (with_reducible show wpAny _ _ (binaryOp Operator.Add (Value.ref _) (Value.ref _)) _ _ _); k_dflt (refine kmk_add_ints (by k_asm) (by k_asm) (by kmk_list) (by kmk_list) (by assumption) (by assumption) ?_ (by exact times_small (by assumption) (by assumption))); intro D' ws' h' F' N' l1 hI'; (try k_lt l1); (try k_sweep)) | walk1) | (dsimp only; (first | (k_here; (with_reducible show wpAny _ _ (call (Value.builtin "len") _) _ _ _); k_dflt (refine len_led (by k_asm) (by k_mem) (by assumption) (by assumption) ?_); intro t') | (k_here; (with_reducible show wpAny _ _ (call (Value.builtin "sum") _) _ _ _); k_dflt (refine sum_pick (by rfl) (by k_asm) (by k_asm) (by k_mem) (by assumption) ?_); intro h' tk' t' z' F' N') | (k_here; (with_reducible show wpAny _ _ (binaryOp Operator.Add (Value.ref _) (Value.ref _)) _ _ _); k_dflt (refine kmk_add_ints (by k_asm) (by k_asm) (by kmk_list) (by kmk_list) (by assumption) (by assumption) ?_ (by exact times_small (by assumption) (by assumption))); intro D' ws' h' F' N' l1 hI'; (try k_lt l1); (try k_sweep)) | walk1)))
  · rename Fr h₀ L _ _ => F9
    rename News h₀ L _ _ => N9
    rename IntsAre _ (_ ++ ys) => I9
    refine k _ _ _ lx _ vx 0 cx _ xs _ (fr_over (S := [(Str.ofString "item", .int item ti), (Str.ofString "x", .ref _), (Str.ofString "y", .ref lx), (Str.ofString "matcher", .ref M), (Str.ofString "script", .ref ls)]) F9 (by repeat (first | exact List.forall_mem_nil _ | refine List.forall_mem_cons.mpr ⟨rfl, ?_⟩))) (fun p (hp : p ∈ _ :: _ :: rest) => ?_) I9 hx (nextW_of (by assumption))
    simp only [List.mem_cons] at hp
    exact N9 p (by simp only [List.mem_cons]; rcases hp with h | h | h <;> simp [h])
  · rename Fr h₀ L _ _ => F9
    rename News h₀ L _ _ => N9
    refine k _ _ lx ly vx vy cx cy xs ys _ (fr_over (S := [(Str.ofString "item", .int item ti), (Str.ofString "x", .ref lx), (Str.ofString "y", .ref ly), (Str.ofString "matcher", .ref M), (Str.ofString "script", .ref ls)]) F9 (by repeat (first | exact List.forall_mem_nil _ | refine List.forall_mem_cons.mpr ⟨rfl, ?_⟩))) N9 hx hy (.inr ⟨by omega, rfl, rfl⟩)
end Mine
end
section
open PySem PySem.W PySem.Calls PyProof.Rows
namespace Mine
structure Words (item : Int) (n : Nat) (xs ys : List Int) : Prop where
  lx : ∀ v ∈ xs, v = item ∨ v = item + 1
  ly : ∀ v ∈ ys, v = item ∨ v = item + 1
  le : ys.length ≤ xs.length
  hi : xs.length ≤ 600
  shape : ∃ c p q, xs ++ ys = c ++ [p, q] ∧ ys ++ xs = c ++ [q, p] ∧ p ≠ q ∧ (2 ≤ n → item ∈ c ∧ item + 1 ∈ c)
  zero : n = 0 → xs = [item] ∧ ys = [item + 1]
  one : n = 1 → ∃ k : Nat, 1 ≤ k ∧ k ≤ 9 ∧ xs = List.replicate k item ++ [item + 1] ∧ ys = [item]
theorem words_zero (item : Int) : Words item 0 [item] [item + 1] := by
  refine ⟨fun v h => .inl (by simpa using h), fun v h => .inr (by simpa using h), by simp, by simp, ⟨[], item, item + 1, rfl, rfl, by omega, fun h => by omega⟩, fun _ => ⟨rfl, rfl⟩, fun h => by omega⟩
theorem times_comm (k : Nat) (xs : List Int) : xs ++ (List.replicate k xs).flatten = (List.replicate k xs).flatten ++ xs := by
  induction k with
  | zero => simp
  | succ k ih => rw [List.replicate_succ, List.flatten_cons, List.append_assoc, ← ih]
theorem times_one (k : Nat) (x : Int) : (List.replicate k [x]).flatten = List.replicate k x := by
  induction k with
  | zero => simp
  | succ k ih => rw [List.replicate_succ, List.flatten_cons, ih, List.replicate_succ]; rfl
theorem times_mem {k : Nat} {xs : List Int} {v : Int} (hk : 1 ≤ k) : v ∈ (List.replicate k xs).flatten ↔ v ∈ xs := by
  constructor
  · intro h
    obtain ⟨l, hl, hv⟩ := List.mem_flatten.mp h
    rw [List.eq_of_mem_replicate hl] at hv; exact hv
  · intro h
    exact List.mem_flatten.mpr ⟨xs, List.mem_replicate.mpr ⟨by omega, rfl⟩, h⟩
theorem words_next {item : Int} {n : Nat} {xs ys xs' ys' : List Int} (W : Words item n xs ys) (h : NextW xs ys xs' ys') : Words item (n + 1) xs' ys' := by
  obtain ⟨lx, ly, le, hi, ⟨c, p, q, e1, e2, hpq, hc⟩, zero, one⟩ := W
  rcases h with ⟨h60, k, k1, k9, rfl, ey⟩ | ⟨h60, ex, ey⟩
  · replace ey := ey.symm
    subst ey
    have hlen := times_len k xs
    have hm : xs.length ≤ k * xs.length := Nat.le_mul_of_pos_left _ k1
    have hm2 : k * xs.length ≤ 9 * 60 := Nat.mul_le_mul k9 h60
    refine ⟨fun v hv => ?_, lx, by rw [List.length_append, hlen]; omega, by rw [List.length_append, hlen]; omega, ⟨(List.replicate k xs).flatten ++ c, q, p, ?_, ?_, Ne.symm hpq, fun hn => ?_⟩, fun h => by omega, fun h1 => ?_⟩
    · rcases List.mem_append.mp hv with hv | hv
      · exact lx v ((times_mem k1).mp hv)
      · exact ly v hv
    · rw [List.append_assoc, e2, List.append_assoc]
    · rw [← List.append_assoc, times_comm, List.append_assoc, e1, List.append_assoc]
    · by_cases h2 : 2 ≤ n
      · obtain ⟨a, b⟩ := hc h2
        exact ⟨List.mem_append_right _ a, List.mem_append_right _ b⟩
      · obtain ⟨k', g1, g2, rfl, rfl⟩ := one (by omega)
        refine ⟨List.mem_append_left _ ((times_mem k1).mpr ?_), List.mem_append_left _ ((times_mem k1).mpr ?_)⟩
        · exact List.mem_append_left _ (List.mem_replicate.mpr ⟨by omega, rfl⟩)
        · exact List.mem_append_right _ (.head _)
    · obtain ⟨rfl, rfl⟩ := zero (by omega)
      exact ⟨k, k1, k9, by rw [times_one], rfl⟩
  · replace ex := ex.symm
    replace ey := ey.symm
    subst ex ey
    have h2 : 2 ≤ n := by
      refine Classical.byContradiction fun hne => ?_
      by_cases h0 : n = 0
      · obtain ⟨rfl, rfl⟩ := zero h0; simp at h60
      · obtain ⟨k', g1, g2, rfl, rfl⟩ := one (by omega); simp at h60; omega
    exact ⟨lx, ly, le, hi, ⟨c, p, q, e1, e2, hpq, fun _ => hc h2⟩, fun h => by omega, fun h => by omega⟩
section
variable {item : Int} {n : Nat} {xs ys : List Int}
theorem Words.heads (W : Words item n xs ys) : Heads (item - 1) (item - 2) (item - 3) (xs ++ ys) (ys ++ xs) := by
  have l : ∀ v, v ∈ xs ++ ys → v = item ∨ v = item + 1 := fun v h => (List.mem_append.mp h).elim (W.lx v) (W.ly v)
  have r : ∀ v, v ∈ ys ++ xs → v = item ∨ v = item + 1 := fun v h => (List.mem_append.mp h).elim (W.ly v) (W.lx v)
  refine ⟨by omega, by omega, by omega, fun h => ?_, fun h => ?_, fun h => ?_, fun h => ?_⟩
  · have := l _ h; omega
  · have := r _ h; omega
  · have := r _ h; omega
  · have := l _ h; omega
theorem Words.heads' (W : Words item n xs ys) : Heads (item - 1) (item - 3) (item - 2) (ys ++ xs) (xs ++ ys) := by
  obtain ⟨h1, h2, h3, h4, h5, h6, h7⟩ := W.heads
  exact ⟨h2, h1, Ne.symm h3, h5, h4, h7, h6⟩
theorem len_a {u v : Int} : (([u, v] ++ xs ++ ys).length : Int) = (xs.length : Int) + ys.length + 2 := by simp only [List.length_append, List.length_cons, List.length_nil]; omega
theorem len_b {u v : Int} : (([u, v] ++ ys ++ xs).length : Int) = (xs.length : Int) + ys.length + 2 := by simp only [List.length_append, List.length_cons, List.length_nil]; omega
theorem shape_a {u v : Int} : [u, v] ++ xs ++ ys = u :: v :: (xs ++ ys) := rfl
/-- turn 0 -/
theorem words0 (W : Words item 0 xs ys) :
    (FM ([item - 1, item - 2] ++ xs ++ ys) ([item - 1, item - 3] ++ ys ++ xs) 0 (([item - 1, item - 2] ++ xs ++ ys).length : Int) 0 (([item - 1, item - 3] ++ ys ++ xs).length : Int) 0 0 1 ∧
     FM ([item - 1, item - 2] ++ xs ++ ys) ([item - 1, item - 3] ++ ys ++ xs) (0 + 1) (([item - 1, item - 2] ++ xs ++ ys).length : Int) (0 + 1) (([item - 1, item - 3] ++ ys ++ xs).length : Int) 2 3 ((xs.length : Int) + ys.length - 1) ∧
     FM ([item - 1, item - 2] ++ xs ++ ys) ([item - 1, item - 3] ++ ys ++ xs) (0 + 1) 2 (0 + 1) 3 1 1 0) ∧
    (FM ([item - 1, item - 3] ++ ys ++ xs) ([item - 1, item - 2] ++ xs ++ ys) 0 (([item - 1, item - 3] ++ ys ++ xs).length : Int) 0 (([item - 1, item - 2] ++ xs ++ ys).length : Int) 0 0 1 ∧
     FM ([item - 1, item - 3] ++ ys ++ xs) ([item - 1, item - 2] ++ xs ++ ys) (0 + 1) (([item - 1, item - 3] ++ ys ++ xs).length : Int) (0 + 1) (([item - 1, item - 2] ++ xs ++ ys).length : Int) 2 3 ((xs.length : Int) + ys.length - 1) ∧
     FM ([item - 1, item - 3] ++ ys ++ xs) ([item - 1, item - 2] ++ xs ++ ys) (0 + 1) 2 (0 + 1) 3 1 1 0) ∧ (xs.length : Int) + ys.length = 2 := by
  have H := W.heads
  have H' := W.heads'
  obtain ⟨rfl, rfl⟩ := W.zero rfl
  have hne : item ≠ item + 1 := by omega
  have one : ∀ x y : Int, Stretch (([] : List Int) ++ [x, y]) ([] ++ [y, x]) 0 1 (([] : List Int).length + 1) := fun x y t ht => by
    obtain rfl : t = 0 := by simp at ht; omega
    exact ⟨x, rfl, rfl⟩
  have c : Core ([item] ++ [item + 1]) ([item + 1] ++ [item]) 0 1 1 := core_C (c := []) hne (one _ _)
  have c' : Core ([item + 1] ++ [item]) ([item] ++ [item + 1]) 0 1 1 := core_C (c := []) (Ne.symm hne) (one _ _)
  refine ⟨⟨fm_cast (long_one H c) rfl rfl rfl rfl rfl rfl rfl, fm_cast (long_behind H c (by omega)) rfl rfl rfl rfl rfl rfl rfl, fm_cast (long_none (I := 0) (J := 1) H (by simp) (by simp) (by omega)) rfl rfl rfl rfl rfl rfl rfl⟩,
    ⟨fm_cast (long_one H' c') rfl rfl rfl rfl rfl rfl rfl, fm_cast (long_behind H' c' (by omega)) rfl rfl rfl rfl rfl rfl rfl, fm_cast (long_none (I := 0) (J := 1) H' (by simp) (by simp) (by omega)) rfl rfl rfl rfl rfl rfl rfl⟩, rfl⟩
/-- turn 1 -/
theorem words1 (W : Words item 1 xs ys) :
    (FM ([item - 1, item - 2] ++ xs ++ ys) ([item - 1, item - 3] ++ ys ++ xs) 0 (([item - 1, item - 2] ++ xs ++ ys).length : Int) 0 (([item - 1, item - 3] ++ ys ++ xs).length : Int) 2 3 ((xs.length : Int) + ys.length - 1) ∧
     FM ([item - 1, item - 2] ++ xs ++ ys) ([item - 1, item - 3] ++ ys ++ xs) 0 2 0 3 0 0 1 ∧
     FM ([item - 1, item - 2] ++ xs ++ ys) ([item - 1, item - 3] ++ ys ++ xs) (0 + 1) 2 (0 + 1) 3 1 1 0) ∧
    (FM ([item - 1, item - 3] ++ ys ++ xs) ([item - 1, item - 2] ++ xs ++ ys) 0 (([item - 1, item - 3] ++ ys ++ xs).length : Int) 0 (([item - 1, item - 2] ++ xs ++ ys).length : Int) 3 2 ((xs.length : Int) + ys.length - 1) ∧
     FM ([item - 1, item - 3] ++ ys ++ xs) ([item - 1, item - 2] ++ xs ++ ys) 0 3 0 2 0 0 1 ∧
     FM ([item - 1, item - 3] ++ ys ++ xs) ([item - 1, item - 2] ++ xs ++ ys) (0 + 1) 3 (0 + 1) 2 1 1 0) ∧ 3 ≤ (xs.length : Int) + ys.length := by
  have H := W.heads
  have H' := W.heads'
  obtain ⟨k, k1, k9, rfl, rfl⟩ := W.one rfl
  have hne : item ≠ item + 1 := by omega
  have eX : (List.replicate k item ++ [item + 1]) ++ [item] = List.replicate k item ++ [item + 1, item] := by simp
  have eY : [item] ++ (List.replicate k item ++ [item + 1]) = List.replicate k item ++ [item, item + 1] := by
    have : [item] ++ List.replicate k item = List.replicate k item ++ [item] := by rw [← List.replicate_succ', List.replicate_succ]; rfl
    rw [← List.append_assoc, this, List.append_assoc]; rfl
  have hl : (List.replicate k item).length = k := by simp
  have inX : ∀ t, t < k → (List.replicate k item ++ [item + 1, item])[t]? = some item := fun t ht => by
    rw [List.getElem?_append_left (by omega), List.getElem?_replicate_of_lt ht]
  have inY : ∀ t, t < k → (List.replicate k item ++ [item, item + 1])[t]? = some item := fun t ht => by
    rw [List.getElem?_append_left (by omega), List.getElem?_replicate_of_lt ht]
  have x1 : (List.replicate k item ++ [item + 1, item])[k]? = some (item + 1) := by have := at_p (c := List.replicate k item) (p := item + 1) (q := item); rwa [hl] at this
  have y1 : (List.replicate k item ++ [item, item + 1])[k]? = some item := by have := at_p (c := List.replicate k item) (p := item) (q := item + 1); rwa [hl] at this
  have y2 : (List.replicate k item ++ [item, item + 1])[k + 1]? = some (item + 1) := by have := at_q (c := List.replicate k item) (p := item) (q := item + 1); rwa [hl] at this
  have inY' : ∀ t, t ≤ k → (List.replicate k item ++ [item, item + 1])[t]? = some item := fun t ht => by
    by_cases q : t < k
    · exact inY t q
    · obtain rfl : t = k := by omega
      exact y1
  have sC : Stretch (List.replicate k item ++ [item + 1, item]) (List.replicate k item ++ [item, item + 1]) 0 1 (k + 1) := fun t ht => by
    rw [Nat.zero_add, Nat.add_comm 1 t]
    by_cases q : t < k
    · exact ⟨item, inX t q, inY' (t + 1) (by omega)⟩
    · obtain rfl : t = k := by omega
      exact ⟨item + 1, x1, y2⟩
  have sD : Stretch (List.replicate k item ++ [item, item + 1]) (List.replicate k item ++ [item + 1, item]) 1 0 (k + 1) := fun t ht => by
    obtain ⟨v, a, b⟩ := sC t ht
    exact ⟨v, b, a⟩
  have nD : ¬ Stretch (List.replicate k item ++ [item, item + 1]) (List.replicate k item ++ [item + 1, item]) 0 1 (k + 1) := fun h => by
    obtain ⟨v, a, b⟩ := h (k - 1) (by omega)
    rw [Nat.zero_add, inY _ (by omega)] at a
    rw [show 1 + (k - 1) = k by omega, x1] at b
    exact hne ((Option.some.inj a).trans (Option.some.inj b).symm)
  have c := core_C (c := List.replicate k item) (Ne.symm hne) (by rw [hl]; exact sC)
  have c' := core_D (c := List.replicate k item) hne (by rw [hl]; exact sD) (by rw [hl]; exact nD)
  rw [hl] at c c'
  rw [← eX, ← eY] at c c'
  have e : (((List.replicate k item ++ [item + 1]).length : Int) + ([item].length : Int) - 1) = (k : Int) + 1 := by simp
  have e2 : (((List.replicate k item ++ [item + 1]).length : Int) + ([item].length : Int)) = (k : Int) + 2 := by simp; omega
  rw [e]
  refine ⟨⟨fm_cast (long_main H c (by omega)) rfl rfl rfl rfl rfl rfl rfl, fm_cast (long_head (I := 0) (J := 1) H (by omega) (by simp <;> omega) (by omega)) rfl rfl rfl rfl rfl rfl rfl, fm_cast (long_none (I := 0) (J := 1) H (by simp) (by simp <;> omega) (by omega)) rfl rfl rfl rfl rfl rfl rfl⟩,
    ⟨fm_cast (long_main H' c' (by omega)) rfl rfl rfl rfl rfl rfl rfl, fm_cast (long_head (I := 1) (J := 0) H' (by simp <;> omega) (by omega) (by omega)) rfl rfl rfl rfl rfl rfl rfl, fm_cast (long_none (I := 1) (J := 0) H' (by simp <;> omega) (by simp) (by omega)) rfl rfl rfl rfl rfl rfl rfl⟩, by omega⟩
/-- the later turns -/
theorem words2 (W : Words item n xs ys) (hn : 2 ≤ n) :
    (FM ([item - 1, item - 2] ++ xs ++ ys) ([item - 1, item - 3] ++ ys ++ xs) 0 (([item - 1, item - 2] ++ xs ++ ys).length : Int) 0 (([item - 1, item - 3] ++ ys ++ xs).length : Int) 2 2 ((xs.length : Int) + ys.length - 2) ∧
     FM ([item - 1, item - 2] ++ xs ++ ys) ([item - 1, item - 3] ++ ys ++ xs) (2 + ((xs.length : Int) + ys.length - 2)) (([item - 1, item - 2] ++ xs ++ ys).length : Int) (2 + ((xs.length : Int) + ys.length - 2)) (([item - 1, item - 3] ++ ys ++ xs).length : Int) ((xs.length : Int) + ys.length) ((xs.length : Int) + ys.length + 1) 1 ∧
     FM ([item - 1, item - 2] ++ xs ++ ys) ([item - 1, item - 3] ++ ys ++ xs) 0 2 0 2 0 0 1 ∧
     FM ([item - 1, item - 2] ++ xs ++ ys) ([item - 1, item - 3] ++ ys ++ xs) (0 + 1) 2 (0 + 1) 2 1 1 0) ∧
    (FM ([item - 1, item - 3] ++ ys ++ xs) ([item - 1, item - 2] ++ xs ++ ys) 0 (([item - 1, item - 3] ++ ys ++ xs).length : Int) 0 (([item - 1, item - 2] ++ xs ++ ys).length : Int) 2 2 ((xs.length : Int) + ys.length - 2) ∧
     FM ([item - 1, item - 3] ++ ys ++ xs) ([item - 1, item - 2] ++ xs ++ ys) (2 + ((xs.length : Int) + ys.length - 2)) (([item - 1, item - 3] ++ ys ++ xs).length : Int) (2 + ((xs.length : Int) + ys.length - 2)) (([item - 1, item - 2] ++ xs ++ ys).length : Int) ((xs.length : Int) + ys.length) ((xs.length : Int) + ys.length + 1) 1 ∧
     FM ([item - 1, item - 3] ++ ys ++ xs) ([item - 1, item - 2] ++ xs ++ ys) 0 2 0 2 0 0 1 ∧
     FM ([item - 1, item - 3] ++ ys ++ xs) ([item - 1, item - 2] ++ xs ++ ys) (0 + 1) 2 (0 + 1) 2 1 1 0) ∧ 4 ≤ (xs.length : Int) + ys.length := by
  have H := W.heads
  have H' := W.heads'
  obtain ⟨c, p, q, e1, e2, hpq, hc⟩ := W.shape
  obtain ⟨hy, hz⟩ := hc hn
  have hne : item ≠ item + 1 := by omega
  have l2 : 2 ≤ c.length := by
    match c, hy, hz with
    | [], h, _ => cases h
    | [x], h, h' => simp at h h'; omega
    | _ :: _ :: _, _, _ => simp
  have cA := core_A (c := c) hpq hy hz hne
  have cA' := core_A (c := c) (Ne.symm hpq) hy hz hne
  have eX : (xs.length : Int) + ys.length = c.length + 2 := by
    have := congrArg List.length e1
    simp only [List.length_append, List.length_cons, List.length_nil] at this; omega
  have eS : (xs.length : Int) + ys.length - 2 = c.length := by omega
  rw [eS, eX]
  rw [len_a, len_b, eX]
  rw [shape_a, shape_a, e1, e2]
  rw [e1, e2] at H H'
  have lp : (c ++ [p, q]).length = c.length + 2 := by simp
  have lq : (c ++ [q, p]).length = c.length + 2 := by simp
  refine ⟨⟨fm_cast (long_main H cA l2) ?_ ?_ ?_ ?_ ?_ ?_ ?_, fm_cast (long_last H hpq) ?_ ?_ ?_ ?_ ?_ ?_ ?_, fm_cast (long_head (I := 0) (J := 0) H ?_ ?_ (.inl rfl)) ?_ ?_ ?_ ?_ ?_ ?_ ?_, fm_cast (long_none (I := 0) (J := 0) H ?_ ?_ (.inl rfl)) ?_ ?_ ?_ ?_ ?_ ?_ ?_⟩,
    ⟨fm_cast (long_main H' cA' l2) ?_ ?_ ?_ ?_ ?_ ?_ ?_, fm_cast (long_last H' (Ne.symm hpq)) ?_ ?_ ?_ ?_ ?_ ?_ ?_, fm_cast (long_head (I := 0) (J := 0) H' ?_ ?_ (.inl rfl)) ?_ ?_ ?_ ?_ ?_ ?_ ?_, fm_cast (long_none (I := 0) (J := 0) H' ?_ ?_ (.inl rfl)) ?_ ?_ ?_ ?_ ?_ ?_ ?_⟩, by omega⟩
  all_goals (first | omega | (rw [lp]; omega) | (rw [lq]; omega))
end
end Mine
end
section
open PySem PySem.W PySem.Calls PyProof.Rows
set_option maxRecDepth 100000
namespace Mine
theorem LBody_eq : LBody = LP1 ++ (CH1 ++ (CH2 ++ LP4)) := by
  show LBody = LBody.take 10 ++ ((LBody.drop 10).take 2 ++ ((LBody.drop 12).take 2 ++ LBody.drop 14))
  generalize LBody = l
  have e1 : l.drop 12 = (l.drop 12).take 2 ++ l.drop 14 := by
    have := (List.take_append_drop 2 (l.drop 12)).symm
    rwa [List.drop_drop] at this
  have e2 : l.drop 10 = (l.drop 10).take 2 ++ l.drop 12 := by
    have := (List.take_append_drop 2 (l.drop 10)).symm
    rwa [List.drop_drop] at this
  rw [← e1, ← e2, List.take_append_drop]
theorem op_cast {o : Obj} {t : String} {a b c d a' b' c' d' : Int} (h : Op o t a b c d) (e1 : a = a') (e2 : b = b') (e3 : c = c') (e4 : d = d') : Op o t a' b' c' d' := by subst e1 e2 e3 e4; exact h
theorem op_cls {o : Obj} {P : Params} {tag : String} {a b c d : Int} {t : Nat → Tok} {va vb vmb vop vfb vb2j vbj vbp : Value} (h : Op o tag a b c d) : o.cls ≠ (sD P t va vb vmb vop vfb vb2j vbj vbp).cls := by
  obtain ⟨_, _, _, _, _, rfl⟩ := h
  intro e; exact absurd (Value.type.inj e) (by decide)
end Mine
end
theorem Mine.flush6 {M : PySem.Model} {A : PySem.Around} {env : PySem.Env} {E : PySem.Value → PySem.Shared → Prop} {Q : PySem.Flow → PySem.Shared → Prop} {s : PySem.Shared} (h : Q .next s) : PySem.wpAny M A (PySem.execs [] env) Q E s := by first | (walk1; exact h) | exact PySem.wpAny_execs_nil h
section
open PySem PySem.W PySem.Calls PyProof.Rows
set_option maxRecDepth 100000
namespace Mine
local macro_rules | `(tactic| k_all) => `(tactic| assumption)
noncomputable def LPa : List Stmt := LP1.take 8
noncomputable def LPb : List Stmt := (LP1.drop 8).take 1
noncomputable def LPc : List Stmt := LP1.drop 9
theorem LP1_eq : LP1 = LPa ++ (LPb ++ LPc) := by
  show LP1 = LP1.take 8 ++ ((LP1.drop 8).take 1 ++ LP1.drop 9)
  generalize LP1 = l
  have e1 : l.drop 8 = (l.drop 8).take 1 ++ l.drop 9 := by
    have := (List.take_append_drop 1 (l.drop 8)).symm
    rwa [List.drop_drop] at this
  rw [← e1, List.take_append_drop]
noncomputable abbrev lW (ls M lx ly lf lg lt lc bt bc wh : Addr) (item turn size : Value) : List (Str × Value) := (Str.ofString "size", size) :: (Str.ofString "whole", .ref wh) :: lS ls M lx ly lf lg lt lc bt bc item turn
theorem bpre_pick {g h : Heap} {L : Addr} {a0 a1 a2 a3 a4 a5 a6 a7 a8 a9 a10 a11 a12 a13 a14 a15 : Addr × Obj} {rest : List (Addr × Obj)} (N : News g L h (a0 :: a1 :: a2 :: a3 :: a4 :: a5 :: a6 :: a7 :: a8 :: a9 :: a10 :: a11 :: a12 :: a13 :: a14 :: a15 :: rest)) : News g L h (a13 :: a12 :: a7 :: a10 :: a9 :: a8 :: a11 :: a0 :: a6 :: a5 :: a4 :: a3 :: a2 :: a1 :: a14 :: a15 :: rest) := fun p hp => by
  simp only [List.mem_cons] at hp
  rcases hp with h | h | h | h | h | h | h | h | h | h | h | h | h | h | h | h | h
  · exact N p (by rw [h]; exact .tail _ (.tail _ (.tail _ (.tail _ (.tail _ (.tail _ (.tail _ (.tail _ (.tail _ (.tail _ (.tail _ (.tail _ (.tail _ (.head _))))))))))))))
  · exact N p (by rw [h]; exact .tail _ (.tail _ (.tail _ (.tail _ (.tail _ (.tail _ (.tail _ (.tail _ (.tail _ (.tail _ (.tail _ (.tail _ (.head _)))))))))))))
  · exact N p (by rw [h]; exact .tail _ (.tail _ (.tail _ (.tail _ (.tail _ (.tail _ (.tail _ (.head _))))))))
  · exact N p (by rw [h]; exact .tail _ (.tail _ (.tail _ (.tail _ (.tail _ (.tail _ (.tail _ (.tail _ (.tail _ (.tail _ (.head _)))))))))))
  · exact N p (by rw [h]; exact .tail _ (.tail _ (.tail _ (.tail _ (.tail _ (.tail _ (.tail _ (.tail _ (.tail _ (.head _))))))))))
  · exact N p (by rw [h]; exact .tail _ (.tail _ (.tail _ (.tail _ (.tail _ (.tail _ (.tail _ (.tail _ (.head _)))))))))
  · exact N p (by rw [h]; exact .tail _ (.tail _ (.tail _ (.tail _ (.tail _ (.tail _ (.tail _ (.tail _ (.tail _ (.tail _ (.tail _ (.head _))))))))))))
  · exact N p (by rw [h]; exact .head _)
  · exact N p (by rw [h]; exact .tail _ (.tail _ (.tail _ (.tail _ (.tail _ (.tail _ (.head _)))))))
  · exact N p (by rw [h]; exact .tail _ (.tail _ (.tail _ (.tail _ (.tail _ (.head _))))))
  · exact N p (by rw [h]; exact .tail _ (.tail _ (.tail _ (.tail _ (.head _)))))
  · exact N p (by rw [h]; exact .tail _ (.tail _ (.tail _ (.head _))))
  · exact N p (by rw [h]; exact .tail _ (.tail _ (.head _)))
  · exact N p (by rw [h]; exact .tail _ (.head _))
  · exact N p (by rw [h]; exact .tail _ (.tail _ (.tail _ (.tail _ (.tail _ (.tail _ (.tail _ (.tail _ (.tail _ (.tail _ (.tail _ (.tail _ (.tail _ (.tail _ (.head _)))))))))))))))
  · exact N p (by rw [h]; exact .tail _ (.tail _ (.tail _ (.tail _ (.tail _ (.tail _ (.tail _ (.tail _ (.tail _ (.tail _ (.tail _ (.tail _ (.tail _ (.tail _ (.tail _ (.head _))))))))))))))))
  · exact N p (.tail _ (.tail _ (.tail _ (.tail _ (.tail _ (.tail _ (.tail _ (.tail _ (.tail _ (.tail _ (.tail _ (.tail _ (.tail _ (.tail _ (.tail _ (.tail _ (h)))))))))))))))))
set_option maxHeartbeats 8000000 in
theorem bpre {w : World} {s : Shared} {h₀ : Heap} {L fa' M ls lx ly : Addr} {mg mb m : Str → Option Value} {mean : ExcName → Option Value} {cd : Value} {Q : Flow → Shared → Prop} {tn item : Int} {tt ti : Tok} {vx vy : List Value} {cx cy : Nat} {xs ys : List Int} {rest : List (Addr × Obj)}
    (X : (K w.params).In h₀) (T : Top qv (looseW qv loose) mean mg mb h₀)
    (F : Fr h₀ L s.heap (over [(Str.ofString "turn", .int tn tt), (Str.ofString "item", .int item ti), (Str.ofString "x", .ref lx), (Str.ofString "y", .ref ly), (Str.ofString "matcher", .ref M), (Str.ofString "script", .ref ls)] m))
    (N : News h₀ L s.heap ((lx, listOf vx.toArray cx) :: (ly, listOf vy.toArray cy) :: rest)) (hx : IntsAre vx xs) (hy : IntsAre vy ys) (hlx : xs.length ≤ 1000) (hly : ys.length ≤ 1000)
    (k : ∀ lf lg vf vg nf ng ltA lcA tA0 tA1 tA2 wh cA0 cA1 cA2 cA3 cA4 cA5 qtA0 qtA1 qtA2 qwh wcA0 wcA1 wcA2 wcA3 wcA4 wcA5 nA1 nA2 h' tk m' tz, Fr h₀ L h' (over (lW ls M lx ly lf lg ltA lcA ltA lcA wh (.int item ti) (.int tn tt) (.int ((xs.length : Int) + (ys.length : Int)) tz)) m') → News h₀ L h' ((lf, listOf (List.toArray vf) nf) :: (lg, listOf (List.toArray vg) ng) :: (ltA, listOf #[.ref tA0, .ref tA1, .ref tA2, .ref wh] nA1) :: (tA0, qtA0) :: (tA1, qtA1) :: (tA2, qtA2) :: (wh, qwh) :: (lcA, listOf #[.ref cA0, .ref cA1, .ref cA2, .ref cA3, .ref cA4, .ref cA5] nA2) :: (cA0, wcA0) :: (cA1, wcA1) :: (cA2, wcA2) :: (cA3, wcA3) :: (cA4, wcA4) :: (cA5, wcA5) :: (lx, listOf vx.toArray cx) :: (ly, listOf vy.toArray cy) :: rest) → IntsAre vf [item - 1, item - 2] → IntsAre vg [item - 1, item - 3] → Tp qtA0 (0) (0) (1) → Tp qtA1 (2) (2) (((xs.length : Int) + (ys.length : Int)) - 2) → Tp qtA2 (((xs.length : Int) + (ys.length : Int))) (((xs.length : Int) + (ys.length : Int)) + 1) (1) → Tp qwh (((xs.length : Int) + (ys.length : Int)) + 2) (((xs.length : Int) + (ys.length : Int)) + 2) (0) → Op wcA0 "equal" (0) (1) (0) (1) → Op wcA1 "replace" (1) (2) (1) (2) → Op wcA2 "equal" (2) (((xs.length : Int) + (ys.length : Int))) (2) (((xs.length : Int) + (ys.length : Int))) → Op wcA3 "insert" (((xs.length : Int) + (ys.length : Int))) (((xs.length : Int) + (ys.length : Int))) (((xs.length : Int) + (ys.length : Int))) (((xs.length : Int) + (ys.length : Int)) + 1) → Op wcA4 "equal" (((xs.length : Int) + (ys.length : Int))) (((xs.length : Int) + (ys.length : Int)) + 1) (((xs.length : Int) + (ys.length : Int)) + 1) (((xs.length : Int) + (ys.length : Int)) + 2) → Op wcA5 "delete" (((xs.length : Int) + (ys.length : Int)) + 1) (((xs.length : Int) + (ys.length : Int)) + 2) (((xs.length : Int) + (ys.length : Int)) + 2) (((xs.length : Int) + (ys.length : Int)) + 2) → Q .next { s with heap := h', toks := tk }) :
    wpAny (model pw w) (callerA.deeper (envL L fa' cd)) (execs LPa (envL L fa' cd)) Q (fun _ _ => False) s := by
  conv in LPa => whnf
  show wpAny _ _ (execs _ _) _ _ _
  obtain ⟨hp, gn, dr, tk, os⟩ := s
  dsimp only at F N k
  repeat' (first | ((with_reducible show wpAny _ _ (execs _ _) _ _ _); exfalso; omega) | ((first | (k_here; (with_reducible show wpAny _ _ (call (Value.builtin "len") _) _ _ _); k_dflt (refine len_led (by k_asm) (by k_mem) (by assumption) (by assumption) ?_); intro t') | walk1); all_goals (try dsimp only); all_goals (try ((with_reducible refine wp_tok ?_); intro tk))) | (dsimp only; (first | (k_here; (with_reducible show wpAny _ _ (call (Value.builtin "len") _) _ _ _); k_dflt (refine len_led (by k_asm) (by k_mem) (by assumption) (by assumption) ?_); intro t') | walk1)))
  rename Fr h₀ L _ _ => F9
  rename News h₀ L _ _ => N9
  exact wpAny_pure (k _ _ [_, _] [_, _] _ _ _ _ _ _ _ _ _ _ _ _ _ _ _ _ _ _ _ _ _ _ _ _ _ _ _ _ _ _ (fr_over (S := lW ls M lx ly _ _ _ _ _ _ _ (.int item ti) (.int tn tt) (.int ((xs.length : Int) + (ys.length : Int)) _)) F9 (by repeat (first | exact List.forall_mem_nil _ | refine List.forall_mem_cons.mpr ⟨rfl, ?_⟩))) (bpre_pick N9) (.cons _ _ (.cons _ _ .nil)) (.cons _ _ (.cons _ _ .nil)) ⟨_, _, _, rfl⟩ ⟨_, _, _, rfl⟩ ⟨_, _, _, rfl⟩ ⟨_, _, _, rfl⟩ ⟨_, _, _, _, _, rfl⟩ ⟨_, _, _, _, _, rfl⟩ ⟨_, _, _, _, _, rfl⟩ ⟨_, _, _, _, _, rfl⟩ ⟨_, _, _, _, _, rfl⟩ ⟨_, _, _, _, _, rfl⟩)
theorem bif2_pick {g h : Heap} {L : Addr} {a0 a1 a2 a3 a4 a5 a6 a7 : Addr × Obj} {rest : List (Addr × Obj)} (N : News g L h (a0 :: a1 :: a2 :: a3 :: a4 :: a5 :: a6 :: a7 :: rest)) : News g L h (a5 :: a7 :: a6 :: a0 :: a4 :: a3 :: a2 :: a1 :: rest) := fun p hp => by
  simp only [List.mem_cons] at hp
  rcases hp with h | h | h | h | h | h | h | h | h
  · exact N p (by rw [h]; exact .tail _ (.tail _ (.tail _ (.tail _ (.tail _ (.head _))))))
  · exact N p (by rw [h]; exact .tail _ (.tail _ (.tail _ (.tail _ (.tail _ (.tail _ (.tail _ (.head _))))))))
  · exact N p (by rw [h]; exact .tail _ (.tail _ (.tail _ (.tail _ (.tail _ (.tail _ (.head _)))))))
  · exact N p (by rw [h]; exact .head _)
  · exact N p (by rw [h]; exact .tail _ (.tail _ (.tail _ (.tail _ (.head _)))))
  · exact N p (by rw [h]; exact .tail _ (.tail _ (.tail _ (.head _))))
  · exact N p (by rw [h]; exact .tail _ (.tail _ (.head _)))
  · exact N p (by rw [h]; exact .tail _ (.head _))
  · exact N p (.tail _ (.tail _ (.tail _ (.tail _ (.tail _ (.tail _ (.tail _ (.tail _ (h)))))))))
set_option maxHeartbeats 8000000 in
theorem bif2 {w : World} {s : Shared} {h₀ : Heap} {L fa' M ls lx ly : Addr} {mg mb m : Str → Option Value} {mean : ExcName → Option Value} {cd : Value} {Q : Flow → Shared → Prop} {tn item : Int} {tt ti : Tok} {lf lg lt lc bt bc wh : Addr} {Z : Int} {tz : Tok} {rest : List (Addr × Obj)}
    (X : (K w.params).In h₀) (T : Top qv (looseW qv loose) mean mg mb h₀)
    (F : Fr h₀ L s.heap (over (lW ls M lx ly lf lg lt lc bt bc wh (.int item ti) (.int tn tt) (.int Z tz)) m))
    (N : News h₀ L s.heap rest) (q : tn < 2)
    (k : ∀ ltC lcC tC0 tC1 cC0 cC1 cC2 cC3 qtC0 qtC1 wcC0 wcC1 wcC2 wcC3 nC1 nC2 h' tk m', Fr h₀ L h' (over (lW ls M lx ly lf lg ltC lcC ltC lcC wh (.int item ti) (.int tn tt) (.int Z tz)) m') → News h₀ L h' ((ltC, listOf #[.ref tC0, .ref tC1, .ref wh] nC1) :: (tC0, qtC0) :: (tC1, qtC1) :: (lcC, listOf #[.ref cC0, .ref cC1, .ref cC2, .ref cC3] nC2) :: (cC0, wcC0) :: (cC1, wcC1) :: (cC2, wcC2) :: (cC3, wcC3) :: rest) → Tp qtC0 (0) (0) (1) → Tp qtC1 (2) (3) (Z - 1) → Op wcC0 "equal" (0) (1) (0) (1) → Op wcC1 "replace" (1) (2) (1) (3) → Op wcC2 "equal" (2) (Z + 1) (3) (Z + 2) → Op wcC3 "delete" (Z + 1) (Z + 2) (Z + 2) (Z + 2) → Q .next { s with heap := h', toks := tk }) :
    wpAny (model pw w) (callerA.deeper (envL L fa' cd)) (execs LPb (envL L fa' cd)) Q (fun _ _ => False) s := by
  conv in LPb => whnf
  show wpAny _ _ (execs _ _) _ _ _
  obtain ⟨hp, gn, dr, tk, os⟩ := s
  dsimp only at F N k
  repeat' (first | ((with_reducible show wpAny _ _ (execs _ _) _ _ _); exfalso; omega) | ((first | (k_here; (with_reducible show wpAny _ _ (call (Value.builtin "len") _) _ _ _); k_dflt (refine len_led (by k_asm) (by k_mem) (by assumption) (by assumption) ?_); intro t') | walk1); all_goals (try dsimp only); all_goals (try ((with_reducible refine wp_tok ?_); intro tk))) | (dsimp only; (first | (k_here; (with_reducible show wpAny _ _ (call (Value.builtin "len") _) _ _ _); k_dflt (refine len_led (by k_asm) (by k_mem) (by assumption) (by assumption) ?_); intro t') | walk1)))
  rename Fr h₀ L _ _ => F9
  rename News h₀ L _ _ => N9
  have N10 := bif2_pick N9
  exact wpAny_pure (k _ _ _ _ _ _ _ _ _ _ _ _ _ _ _ _ _ _ _ (fr_over (S := lW ls M lx ly lf lg _ _ _ _ wh (.int item ti) (.int tn tt) (.int Z tz)) F9 (by repeat (first | exact List.forall_mem_nil _ | refine List.forall_mem_cons.mpr ⟨rfl, ?_⟩))) N10 ⟨_, _, _, rfl⟩ ⟨_, _, _, rfl⟩ ⟨_, _, _, _, _, rfl⟩ ⟨_, _, _, _, _, rfl⟩ ⟨_, _, _, _, _, rfl⟩ ⟨_, _, _, _, _, rfl⟩)
theorem bif1_pick {g h : Heap} {L : Addr} {a0 a1 a2 a3 a4 a5 a6 a7 : Addr × Obj} {rest : List (Addr × Obj)} (N : News g L h (a0 :: a1 :: a2 :: a3 :: a4 :: a5 :: a6 :: a7 :: rest)) : News g L h (a5 :: a7 :: a6 :: a0 :: a4 :: a3 :: a2 :: a1 :: rest) := fun p hp => by
  simp only [List.mem_cons] at hp
  rcases hp with h | h | h | h | h | h | h | h | h
  · exact N p (by rw [h]; exact .tail _ (.tail _ (.tail _ (.tail _ (.tail _ (.head _))))))
  · exact N p (by rw [h]; exact .tail _ (.tail _ (.tail _ (.tail _ (.tail _ (.tail _ (.tail _ (.head _))))))))
  · exact N p (by rw [h]; exact .tail _ (.tail _ (.tail _ (.tail _ (.tail _ (.tail _ (.head _)))))))
  · exact N p (by rw [h]; exact .head _)
  · exact N p (by rw [h]; exact .tail _ (.tail _ (.tail _ (.tail _ (.head _)))))
  · exact N p (by rw [h]; exact .tail _ (.tail _ (.tail _ (.head _))))
  · exact N p (by rw [h]; exact .tail _ (.tail _ (.head _)))
  · exact N p (by rw [h]; exact .tail _ (.head _))
  · exact N p (.tail _ (.tail _ (.tail _ (.tail _ (.tail _ (.tail _ (.tail _ (.tail _ (h)))))))))
set_option maxHeartbeats 8000000 in
theorem bif1 {w : World} {s : Shared} {h₀ : Heap} {L fa' M ls lx ly : Addr} {mg mb m : Str → Option Value} {mean : ExcName → Option Value} {cd : Value} {Q : Flow → Shared → Prop} {tn item : Int} {tt ti : Tok} {lf lg lt lc bt bc wh : Addr} {Z : Int} {tz : Tok} {rest : List (Addr × Obj)}
    (X : (K w.params).In h₀) (T : Top qv (looseW qv loose) mean mg mb h₀)
    (F : Fr h₀ L s.heap (over (lW ls M lx ly lf lg lt lc bt bc wh (.int item ti) (.int tn tt) (.int Z tz)) m))
    (N : News h₀ L s.heap rest) (q : tn = 1)
    (k : ∀ ltD lcD tD0 tD1 cD0 cD1 cD2 cD3 qtD0 qtD1 wcD0 wcD1 wcD2 wcD3 nD1 nD2 h' tk m', Fr h₀ L h' (over (lW ls M lx ly lf lg lt lc ltD lcD wh (.int item ti) (.int tn tt) (.int Z tz)) m') → News h₀ L h' ((ltD, listOf #[.ref tD0, .ref tD1, .ref wh] nD1) :: (tD0, qtD0) :: (tD1, qtD1) :: (lcD, listOf #[.ref cD0, .ref cD1, .ref cD2, .ref cD3] nD2) :: (cD0, wcD0) :: (cD1, wcD1) :: (cD2, wcD2) :: (cD3, wcD3) :: rest) → Tp qtD0 (0) (0) (1) → Tp qtD1 (3) (2) (Z - 1) → Op wcD0 "equal" (0) (1) (0) (1) → Op wcD1 "replace" (1) (3) (1) (2) → Op wcD2 "equal" (3) (Z + 2) (2) (Z + 1) → Op wcD3 "insert" (Z + 2) (Z + 2) (Z + 1) (Z + 2) → Q .next { s with heap := h', toks := tk }) :
    wpAny (model pw w) (callerA.deeper (envL L fa' cd)) (execs LPc (envL L fa' cd)) Q (fun _ _ => False) s := by
  conv in LPc => whnf
  show wpAny _ _ (execs _ _) _ _ _
  obtain ⟨hp, gn, dr, tk, os⟩ := s
  dsimp only at F N k
  repeat' (first | ((with_reducible show wpAny _ _ (execs _ _) _ _ _); exfalso; omega) | ((first | (k_here; (with_reducible show wpAny _ _ (call (Value.builtin "len") _) _ _ _); k_dflt (refine len_led (by k_asm) (by k_mem) (by assumption) (by assumption) ?_); intro t') | walk1); all_goals (try dsimp only); all_goals (try ((with_reducible refine wp_tok ?_); intro tk))) | (dsimp only; (first | (k_here; (with_reducible show wpAny _ _ (call (Value.builtin "len") _) _ _ _); k_dflt (refine len_led (by k_asm) (by k_mem) (by assumption) (by assumption) ?_); intro t') | walk1)))
  rename Fr h₀ L _ _ => F9
  rename News h₀ L _ _ => N9
  have N10 := bif1_pick N9
  exact wpAny_pure (k _ _ _ _ _ _ _ _ _ _ _ _ _ _ _ _ _ _ _ (fr_over (S := lW ls M lx ly lf lg lt lc _ _ wh (.int item ti) (.int tn tt) (.int Z tz)) F9 (by repeat (first | exact List.forall_mem_nil _ | refine List.forall_mem_cons.mpr ⟨rfl, ?_⟩))) N10 ⟨_, _, _, rfl⟩ ⟨_, _, _, rfl⟩ ⟨_, _, _, _, _, rfl⟩ ⟨_, _, _, _, _, rfl⟩ ⟨_, _, _, _, _, rfl⟩ ⟨_, _, _, _, _, rfl⟩)
end Mine
end
theorem Mine.flush7 {M : PySem.Model} {A : PySem.Around} {env : PySem.Env} {E : PySem.Value → PySem.Shared → Prop} {Q : PySem.Flow → PySem.Shared → Prop} {s : PySem.Shared} (h : Q .next s) : PySem.wpAny M A (PySem.execs [] env) Q E s := by first | (walk1; exact h) | exact PySem.wpAny_execs_nil h
section
open PySem PySem.W PySem.Calls PyProof.Rows
set_option maxRecDepth 100000
namespace Mine
local macro_rules | `(tactic| k_all) => `(tactic| assumption)
set_option maxHeartbeats 8000000 in
theorem build0 {w : World} {s : Shared} {h₀ base : Heap} {L fa' M ls lx ly : Addr} {mg mb m : Str → Option Value} {mean : ExcName → Option Value} {cd : Value} {Q : Flow → Shared → Prop} {tn item : Int} {tt ti : Tok} {vx vy : List Value} {cx cy : Nat} {xs ys : List Int} {rest : List (Addr × Obj)}
    (X : (K w.params).In h₀) (T : Top qv (looseW qv loose) mean mg mb h₀) (B : Below callerA base [] h₀)
    (F : Fr h₀ L s.heap (over [(Str.ofString "turn", .int tn tt), (Str.ofString "item", .int item ti), (Str.ofString "x", .ref lx), (Str.ofString "y", .ref ly), (Str.ofString "matcher", .ref M), (Str.ofString "script", .ref ls)] m))
    (N : News h₀ L s.heap ((lx, listOf vx.toArray cx) :: (ly, listOf vy.toArray cy) :: rest)) (hx : IntsAre vx xs) (hy : IntsAre vy ys) (hlx : xs.length ≤ 1000) (hly : ys.length ≤ 1000) (q : tn = 0)
    (k : ∀ lf lg vf vg nf ng ltC lcC tC0 tC1 tC2 cC0 cC1 cC2 cC3 qtC0 qtC1 qtC2 wcC0 wcC1 wcC2 wcC3 nC1 nC2 h' tk m', Fr h₀ L h' (over (lS ls M lx ly lf lg ltC lcC ltC lcC (.int item ti) (.int tn tt)) m') → News h₀ L h' ((lf, listOf (List.toArray vf) nf) :: (lg, listOf (List.toArray vg) ng) :: (ltC, listOf #[.ref tC0, .ref tC1, .ref tC2] nC1) :: (tC0, qtC0) :: (tC1, qtC1) :: (tC2, qtC2) :: (lcC, listOf #[.ref cC0, .ref cC1, .ref cC2, .ref cC3] nC2) :: (cC0, wcC0) :: (cC1, wcC1) :: (cC2, wcC2) :: (cC3, wcC3) :: (lx, listOf vx.toArray cx) :: (ly, listOf vy.toArray cy) :: rest) → IntsAre vf [item - 1, item - 2] → IntsAre vg [item - 1, item - 3] → Tp qtC0 (0) (0) (1) → Tp qtC1 (2) (3) (((xs.length : Int) + (ys.length : Int)) - 1) → Tp qtC2 (((xs.length : Int) + (ys.length : Int)) + 2) (((xs.length : Int) + (ys.length : Int)) + 2) (0) → Op wcC0 "equal" (0) (1) (0) (1) → Op wcC1 "replace" (1) (2) (1) (3) → Op wcC2 "equal" (2) (((xs.length : Int) + (ys.length : Int)) + 1) (3) (((xs.length : Int) + (ys.length : Int)) + 2) → Op wcC3 "delete" (((xs.length : Int) + (ys.length : Int)) + 1) (((xs.length : Int) + (ys.length : Int)) + 2) (((xs.length : Int) + (ys.length : Int)) + 2) (((xs.length : Int) + (ys.length : Int)) + 2) → Q .next { s with heap := h', toks := tk }) :
    wpAny (model pw w) (callerA.deeper (envL L fa' cd)) (execs LP1 (envL L fa' cd)) Q (fun _ _ => False) s := by
  rw [LP1_eq]
  refine execs_app (bpre X T F N hx hy hlx hly ?_)
  intro lf lg vf vg nf ng ltA lcA tA0 tA1 tA2 wh cA0 cA1 cA2 cA3 cA4 cA5 qtA0 qtA1 qtA2 qwh wcA0 wcA1 wcA2 wcA3 wcA4 wcA5 nA1 nA2 h1 tk1 m1 tz F1 N1 hf hg fA0 fA1 fA2 fwh gA0 gA1 gA2 gA3 gA4 gA5
  refine execs_app (bif2 X T F1 N1 (by omega) ?_)
  intro ltC lcC tC0 tC1 cC0 cC1 cC2 cC3 qtC0 qtC1 wcC0 wcC1 wcC2 wcC3 nC1 nC2 h2 tk2 m2 F2 N2 fC0 fC1 gC0 gC1 gC2 gC3
  conv in LPc => whnf
  show wpAny _ _ (execs _ _) _ _ _
  obtain ⟨hp, gn, dr, tk, os⟩ := s
  dsimp only at F2 N2 k ⊢
  repeat' (first | ((with_reducible show wpAny _ _ (execs _ _) _ _ _); exfalso; omega) | ((first | (k_here; (with_reducible show wpAny _ _ (call (Value.builtin "len") _) _ _ _); k_dflt (refine len_led (by k_asm) (by k_mem) (by assumption) (by assumption) ?_); intro t') | walk1); all_goals (try dsimp only); all_goals (try ((with_reducible refine wp_tok ?_); intro tk))) | (dsimp only; (first | (k_here; (with_reducible show wpAny _ _ (call (Value.builtin "len") _) _ _ _); k_dflt (refine len_led (by k_asm) (by k_mem) (by assumption) (by assumption) ?_); intro t') | walk1)))
  have F9 := F2
  have N9 := N2
  exact wpAny_pure (k lf lg vf vg nf ng ltC lcC tC0 tC1 wh cC0 cC1 cC2 cC3 qtC0 qtC1 qwh wcC0 wcC1 wcC2 wcC3 nC1 nC2 _ _ _ (fr_over (S := lS ls M lx ly lf lg ltC lcC ltC lcC (.int item ti) (.int tn tt)) F9 (by repeat (first | exact List.forall_mem_nil _ | refine List.forall_mem_cons.mpr ⟨rfl, ?_⟩))) (news_sub N9 (by repeat (first | exact List.forall_mem_nil _ | (intro p hp; simp only [List.mem_cons, hp, or_true]; done) | refine List.forall_mem_cons.mpr ⟨by k_mem, ?_⟩))) hf hg fC0 fC1 fwh gC0 gC1 gC2 gC3)
end Mine
end
section
open PySem PySem.W PySem.Calls PyProof.Rows
set_option maxRecDepth 100000
namespace Mine
noncomputable abbrev V3 := Addr × Value × Value × Value
noncomputable abbrev mk (v : V3) (x : Addr × Addr) : Addr × Obj := (x.1, mObj x.2 v.2.1 v.2.2.1 v.2.2.2)
theorem mem_zip : ∀ {don : List V3} {xds : List (Addr × Addr)} {p : Addr × Obj}, p ∈ List.zipWith mk don xds → ∃ b ∈ xds, p.1 = b.1
  | [], _, _, h => by simp at h
  | _ :: _, [], _, h => by simp at h
  | a :: don, b :: xds, p, h => by
    rw [List.zipWith_cons_cons] at h
    rcases List.mem_cons.mp h with rfl | h
    · exact ⟨b, .head _, rfl⟩
    · obtain ⟨b', hb, e⟩ := mem_zip h
      exact ⟨b', .tail _ hb, e⟩
theorem zip_snoc : ∀ (don : List V3) (xds : List (Addr × Addr)) (v : V3) (x : Addr × Addr), xds.length = don.length → List.zipWith mk (don ++ [v]) (xds ++ [x]) = List.zipWith mk don xds ++ [mk v x]
  | [], [], _, _, _ => by simp only [List.nil_append, List.zipWith_cons_cons, List.zipWith_nil_left]
  | [], _ :: _, _, _, h => by simp at h
  | _ :: _, [], _, _, h => by simp at h
  | a :: don, b :: xds, v, x, h => by
    simp only [List.cons_append, List.zipWith_cons_cons]
    rw [zip_snoc don xds v x (by simpa using h)]
section
variable {w : World} {A : Around} {h₀ base : Heap} {A₀ : Around} {outer : List Env} {L : Addr} {env : Env} {m mg mb : Str → Option Value} {mean : ExcName → Option Value} {rest : List (Addr × Obj)} {S li l mp tt q : Addr} {n : Nat} {items : Array Value} {res : Value} {R : Result → Shared → Prop}
set_option maxHeartbeats 1000000 in
theorem ext_loop (X : (K w.params).In h₀) (T : Top qv (looseW qv loose) mean mg mb h₀) (B : Below A₀ base outer h₀) (hA : A.frames = some (env :: outer)) (hf : env.frame = some L) (hke : env.scope.kind = .function) (hroom : A.depth < recursionLimit) (hh : A.handled = none)
    (hSl : S ≠ li) (hr : ∀ p ∈ rest, p.1 ≠ S ∧ p.1 ≠ li)
    (h1 : (mp, mapObj tt (.ref q)) ∈ rest) (h2 : (tt, tup1 (.ref li)) ∈ rest) (h3 : (q, methodObj (.ref 89) (.ref 135)) ∈ rest) (h4 : (l, listOf items n) ∈ rest) :
    ∀ (todo don : List V3) (xds : List (Addr × Addr)) (c : Nat) (s : Shared), items.toList = (don ++ todo).map (fun v => .ref v.1) → xds.length = don.length → (∀ v ∈ todo, (v.1, tup3 v.2.1 v.2.2.1 v.2.2.2) ∈ rest) → (don ++ todo).length ≤ 1000 →
      (∀ x ∈ xds, S < x.1 ∧ li < x.1) → Fr h₀ L s.heap m → News h₀ L s.heap ((S, listOf (xds.map fun x => Value.ref x.1).toArray c) :: (li, liObj l don.length) :: (List.zipWith mk don xds ++ rest)) →
      (∀ xds' c' h' tk, xds'.length = (don ++ todo).length → (∀ x ∈ xds', S < x.1 ∧ li < x.1) → Fr h₀ L h' m → News h₀ L h' ((S, listOf (xds'.map fun x => Value.ref x.1).toArray c') :: (List.zipWith mk (don ++ todo) xds' ++ rest)) → R (.ok (.ret res)) { s with heap := h', toks := tk }) →
      codeAny (model pw w) A (.builtin "list.extend.loop" ⟨[.ref S, .ref mp, res], []⟩) R s
  | [], don, xds, c, s, hi, hx, _, _, hoff, F, N, k => by
    refine codeAny_builtin PySem.F.entry_extend_loop ?_
    rw [Around.under_plainId PySem.F.plain_extend_loop _]
    show wpAny _ A.in1 (pyNext (.ref mp) >>= _) _ _ s
    rw [List.append_nil] at hi k
    have mem : ∀ {p : Addr × Obj}, p ∈ rest → p ∈ ((S, listOf (xds.map fun x => Value.ref x.1).toArray c) :: (li, liObj l don.length) :: (List.zipWith mk don xds ++ rest)) := fun hp => .tail _ (.tail _ (List.mem_append_right _ hp))
    refine wpAny_bind (map_next_end (show A.in1.handled = none from hh) (N _ (mem h1)).1 (N _ (mem h2)).1 (N _ (.tail _ (.head _))).1 (N _ (mem h4)).1 ?_ fun h' he => ?_)
    · rw [← Array.getElem?_toList, hi]; simp
    · refine wpAny_pure ?_
      have zl := N (li, liObj l don.length) (.tail _ (.head _))
      have F' : Fr h₀ L h' m := ⟨F.ns.at' fun o e => he _ o (Ne.symm zl.2.1) e, fun b o e => he b o (fun q => by rw [q] at e; rw [zl.2.2] at e; cases e) (F.keep b o e), F.above⟩
      refine k xds c h' s.toks hx hoff F' fun p hp => ?_
      have hne : p.1 ≠ li := by
        rcases List.mem_cons.mp hp with rfl | hp
        · exact hSl
        · rcases List.mem_append.mp hp with hp | hp
          · obtain ⟨b, hb, e⟩ := mem_zip hp
            rw [e]; exact Ne.symm (Nat.ne_of_lt (hoff b hb).2)
          · exact (hr p hp).2
      have hp' : p ∈ ((S, listOf (xds.map fun x => Value.ref x.1).toArray c) :: (li, liObj l don.length) :: (List.zipWith mk don xds ++ rest)) := by
        rcases List.mem_cons.mp hp with rfl | hp
        · exact .head _
        · exact .tail _ (.tail _ hp)
      exact ⟨he _ _ hne (N p hp').1, (N p hp').2⟩
  | v :: todo, don, xds, c, s, hi, hx, hv, hle, hoff, F, N, k => by
    refine codeAny_builtin PySem.F.entry_extend_loop ?_
    rw [Around.under_plainId PySem.F.plain_extend_loop _]
    show wpAny _ A.in1 (pyNext (.ref mp) >>= _) _ _ s
    have mem : ∀ {p : Addr × Obj}, p ∈ rest → p ∈ ((S, listOf (xds.map fun x => Value.ref x.1).toArray c) :: (List.zipWith mk don xds ++ rest)) := fun hp => .tail _ (List.mem_append_right _ hp)
    have offL : ∀ p ∈ ((S, listOf (xds.map fun x => Value.ref x.1).toArray c) :: (List.zipWith mk don xds ++ rest)), p.1 ≠ li := fun p hp => by
      rcases List.mem_cons.mp hp with rfl | hp
      · exact hSl
      · rcases List.mem_append.mp hp with hp | hp
        · obtain ⟨b, hb, e⟩ := mem_zip hp
          rw [e]; exact Ne.symm (Nat.ne_of_lt (hoff b hb).2)
        · exact (hr p hp).2
    refine wpAny_bind (map_next_item (A := A.in1) X T B hA hf hke (by rw [depth_in1]; exact hroom) F (news_swap N) offL (mem h1) (mem h2) (mem h3) (mem h4) (mem (hv v (.head _))) ?_ ?_)
    · rw [← Array.getElem?_toList, hi]; simp
    intro x dx h' tk F2 N2 hlt hli
    have zS := N2 (S, listOf (xds.map fun x => Value.ref x.1).toArray c) (.tail _ (.tail _ (.head _)))
    have hxS : x ≠ S := Ne.symm (Nat.ne_of_lt (hlt _ (.head _)))
    have hlen : xds.length < 1000 := by simp at hle; omega
    show wpAny _ A.in1 (updateSeq S (·.push (.ref x)) >>= _) _ _ _
    refine wpAny_bind (wpAny_updateSeq zS.1 rfl (wpAny_pure ⟨plainId_quiet PySem.F.plain_extend_loop _, ?_⟩) ?_ ?_)
    · have e1 : don ++ v :: todo = (don ++ [v]) ++ todo := by simp
      rw [e1] at hi hle k
      have hs : Heap.SameBut S h' (h'.update S (Obj.mapSeq (·.push (Value.ref x)))) := Heap.SameBut.update ..
      refine ext_loop X T B hA hf hke hroom hh hSl hr h1 h2 h3 h4 todo (don ++ [v]) (xds ++ [(x, dx)]) (c + 1) _ hi (by simp [hx]) (fun u hu => hv u (.tail _ hu)) hle ?_ (F2.change hs zS.2.1 zS.2.2) (fun p hp => ?_) (fun xds' c' h'' tk' hl' ho' F' N' => k xds' c' h'' tk' hl' ho' F' N')
      · intro y hy
        rcases List.mem_append.mp hy with hy | hy
        · exact hoff y hy
        · rw [List.mem_singleton.mp hy]; exact ⟨hlt _ (.head _), hli⟩
      · have hup : (h'.update S (Obj.mapSeq (·.push (Value.ref x)))).get? S = some (listOf ((xds ++ [(x, dx)]).map fun x => Value.ref x.1).toArray (c + 1)) := by
          have := Heap.get?_update_self (Obj.mapSeq (·.push (Value.ref x))) zS.1 rfl
          rw [this]
          simp [Obj.mapSeq, W.listOf]
        rcases List.mem_cons.mp hp with rfl | hp
        · exact ⟨hup, zS.2⟩
        · have hp2 : p ∈ ((x, mObj dx v.2.1 v.2.2.1 v.2.2.2) :: (li, liObj l (don.length + 1)) :: (S, listOf (xds.map fun x => Value.ref x.1).toArray c) :: (List.zipWith mk don xds ++ rest)) ∧ p.1 ≠ S := by
            rcases List.mem_cons.mp hp with rfl | hp
            · rw [show (don ++ [v]).length = don.length + 1 by simp]
              exact ⟨.tail _ (.head _), Ne.symm hSl⟩
            · rw [zip_snoc don xds v (x, dx) hx] at hp
              rcases List.mem_append.mp hp with hp | hp
              · rcases List.mem_append.mp hp with hp | hp
                · refine ⟨.tail _ (.tail _ (.tail _ (List.mem_append_left _ hp))), ?_⟩
                  obtain ⟨b, hb, e⟩ := mem_zip hp
                  rw [e]; exact Ne.symm (Nat.ne_of_lt (hoff b hb).1)
                · rw [List.mem_singleton.mp hp]
                  exact ⟨.head _, hxS⟩
              · exact ⟨.tail _ (.tail _ (.tail _ (List.mem_append_right _ hp))), (hr p hp).1⟩
          exact ⟨(hs.2 p.1 hp2.2).trans (N2 p hp2.1).1, (N2 p hp2.1).2⟩
    · show (xds.map fun x => Value.ref x.1).toArray.size ≤ sizeLine
      rw [sizeLine_eq]; simp; omega
    · show ((xds.map fun x => Value.ref x.1).toArray.push (Value.ref x)).size ≤ sizeLine + 1
      rw [sizeLine_eq]; simp; omega
end
theorem map_no_len : typeLookup (.type "map") "__len__" = pure none := by rw [typeLookup_type, builtinLookup_eq_fast]; kernel_rfl
theorem map_no_hint : typeLookup (.type "map") "__length_hint__" = pure none := by rw [typeLookup_type, builtinLookup_eq_fast]; kernel_rfl
theorem slot_map_iter : Slot "map" "__iter__" "map.__iter__" :=
  .of (owner := "map") (n := "__iter__") (by rw [typeLookup_type, builtinLookup_eq_fast]; kernel_rfl) (by decide +kernel) (by decide +kernel) (by decide +kernel)
    (by first | exact .inl (by decide +kernel) | exact .inr (by decide +kernel)) (by rw [isSubtype_type]; kernel_rfl)
theorem entry_map_iter : entryFor table "map.__iter__" = some Builtin.«dict_keyiterator.__iter__» :=
  entryFor_alias (id' := "dict_keyiterator.__iter__") (by rw [fastTable_eq_tree]; kernel_rfl) (by decide +kernel) (by decide +kernel) (by rw [fastTable_eq_tree]; kernel_rfl)
theorem args_map_iter (a : Value) : argsOk "map.__iter__" ⟨[a], []⟩ := by unfold argsOk; kernel_rfl
theorem iter_map {w : World} {A : Around} {E : Value → Shared → Prop} {s : Shared} {mp tt : Addr} {f : Value} {Q : Value → Shared → Prop} (hm : s.heap.get? mp = some (mapObj tt f)) (h : Q (.ref mp) s) : wpAny (model pw w) A (pyIter (.ref mp)) Q E s := by
  have hT : s.TypeIs (.ref mp) "map" := ⟨_, hm, rfl⟩
  refine wpAny_pyIter_slot hT slot_map_iter (wpAny_call_entry slot_map_iter hT entry_map_iter ?_ (args_map_iter _))
  exact wpAny_pure ⟨_, rfl, "map", _, hT, slot_map_next.lookup, h⟩
section
variable {w : World} {A : Around} {E : Value → Shared → Prop} {s : Shared} {h₀ base : Heap} {A₀ : Around} {outer : List Env} {L : Addr} {env : Env} {m mg mb : Str → Option Value} {mean : ExcName → Option Value} {rest : List (Addr × Obj)} {li l mp tt q : Addr} {n : Nat} {items : Array Value} {Q : Value → Shared → Prop}
theorem mapN {news : List (Addr × Obj)} (F : Fr h₀ L s.heap m) (N : News h₀ L s.heap news) (hl : (l, listOf items n) ∈ news)
    (k : ∀ li tt mp h', Fr h₀ L h' m → News h₀ L h' ((mp, mapObj tt (.ref q)) :: (tt, tup1 (.ref li)) :: (li, liObj l 0) :: news) → (∀ p ∈ news, p.1 < li) → li < tt → tt < mp → Q (.ref mp) { s with heap := h' }) :
    wpAny (model pw w) A (call (.type "map") [.ref q, .ref l]) Q E s := by
  have hL : s.heap.IsList l items.toList.toArray := by rw [Array.toArray_toList]; exact ⟨_, (N _ hl).1, rfl, n, rfl⟩
  refine call_map hL ?_
  have N1 := N.push F (liObj l 0)
  have N2 := N1.push (F.push _) (tup1 (.ref s.heap.objs.size))
  have N3 := N2.push ((F.push _).push _) (mapObj (s.heap.objs.size + 1) (.ref q))
  simp only [Heap.size_push] at N2 N3
  exact k s.heap.objs.size (s.heap.objs.size + 1) (s.heap.objs.size + 2) _ (((F.push _).push _).push _) N3 (fun p hp => Heap.lt_size (N p hp).1) (Nat.lt_succ_self _) (Nat.lt_succ_self _)
set_option maxHeartbeats 1000000 in
theorem list_map (X : (K w.params).In h₀) (T : Top qv (looseW qv loose) mean mg mb h₀) (B : Below A₀ base outer h₀) (hA : A.frames = some (env :: outer)) (hf : env.frame = some L) (hke : env.scope.kind = .function) (hroom : A.depth < recursionLimit) (hh : A.handled = none)
    (F : Fr h₀ L s.heap m) (N : News h₀ L s.heap ((mp, mapObj tt (.ref q)) :: (tt, tup1 (.ref li)) :: (li, liObj l 0) :: rest)) (hr : ∀ p ∈ rest, p.1 < li) (o1 : li < tt) (o2 : tt < mp)
    (h3 : (q, methodObj (.ref 89) (.ref 135)) ∈ rest) (h4 : (l, listOf items n) ∈ rest)
    (vals : List V3) (hi : items.toList = vals.map (fun v => .ref v.1)) (hv : ∀ v ∈ vals, (v.1, tup3 v.2.1 v.2.2.1 v.2.2.2) ∈ rest) (hle : vals.length ≤ 1000)
    (k : ∀ S xds c h' tk, xds.length = vals.length → (∀ x ∈ xds, S < x.1) → (∀ p ∈ rest, p.1 < S) → Fr h₀ L h' m → News h₀ L h' ((S, listOf (xds.map fun x => Value.ref x.1).toArray c) :: (List.zipWith mk vals xds ++ rest)) → Q (.ref S) { s with heap := h', toks := tk }) :
    wpAny (model pw w) A (call (.type "list") [.ref mp]) Q E s := by
  have hm : s.heap.get? mp = some (mapObj tt (.ref q)) := (N _ (.head _)).1
  have hmp : mp < s.heap.objs.size := Heap.lt_size hm
  refine callType_codes (Q₁ := fun obj s₁ => obj = .ref s.heap.objs.size ∧ s₁ = { s with heap := s.heap.push { cls := .type "list", data := .seq #[] } }) PySem.F.called_list (PySem.F.typeCall_list_1 _) PySem.F.entry_list_init
    (code_list_new _ ⟨rfl, rfl⟩) fun obj s₁ h₁ => ?_
  obtain ⟨rfl, rfl⟩ := h₁
  have hS : (s.heap.push { cls := .type "list", data := .seq #[] }).get? s.heap.objs.size = some { cls := .type "list", data := .seq #[] } := Heap.get?_push_size _ rfl
  refine ⟨⟨_, hS, rfl⟩, PySem.F.args_list_init_2 _ _, ?_⟩
  show wpAny _ A.in1.in1 (do let old ← Builtin.List.listItems (.ref s.heap.objs.size); Builtin.List.listUpdate (.ref s.heap.objs.size) (fun _ => #[]); letGo old.toList.reverse; Builtin.List.listExtendWith (.ref s.heap.objs.size) (.ref mp) .none) _ _ _
  refine wpAny_bind ?_
  unfold Builtin.List.listItems
  refine wpAny_bind (wpAny_seqItems hS rfl (wpAny_pure ?_))
  show wpAny _ A.in1.in1 (updateSeq s.heap.objs.size (fun _ => #[]) >>= fun _ => letGo (#[] : Array Value).toList.reverse >>= fun _ => Builtin.List.listExtendWith (.ref s.heap.objs.size) (.ref mp) .none) _ _ _
  refine wpAny_bind (wpAny_updateSeq hS rfl ?_)
  have hS2 := Heap.get?_update_self (Obj.mapSeq (fun _ => (#[] : Array Value))) hS rfl
  have oth : ∀ b o, b ≠ s.heap.objs.size → s.heap.get? b = some o → ((s.heap.push { cls := .type "list", data := .seq #[] }).update s.heap.objs.size (Obj.mapSeq (fun _ => (#[] : Array Value)))).get? b = some o :=
    fun b o hb e => (Heap.get?_update_other _ _ (Ne.symm hb)).trans (Heap.get?_push_of_some _ e)
  refine wpAny_bind (wpAny_letGo ?_)
  have hm2 := oth _ _ (Nat.ne_of_lt hmp) hm
  have hT : Shared.TypeIs { s with heap := ((s.heap.push { cls := .type "list", data := .seq #[] }).update s.heap.objs.size (Obj.mapSeq (fun _ => (#[] : Array Value)))) } (.ref mp) "map" := ⟨_, hm2, rfl⟩
  unfold Builtin.List.listExtendWith
  refine wpAny_bind (wpAny_typeOf hT ?_)
  have g1 : Builtin.List.listSameRef (.ref s.heap.objs.size) (.ref mp) = false := by simp [Builtin.List.listSameRef, Ne.symm (Nat.ne_of_lt hmp)]
  have g2 : (Value.type "map" == Value.type "list") = false := by decide
  have g3 : (Value.type "map" == Value.type "tuple") = false := by decide
  simp only [g1, g2, g3, Bool.or_false, Bool.false_eq_true, if_false]
  refine wpAny_bind (iter_map hm2 ?_)
  refine wpAny_bind (wpAny_holding ?_)
  unfold Builtin.List.listLengthHint
  refine wpAny_bind (wpAny_specialOf hT map_no_len ?_)
  show wpAny _ _ (specialOf (Value.ref mp) (Str.ofString "__length_hint__") >>= _) _ _ _
  refine wpAny_bind (wpAny_specialOf hT map_no_hint ?_)
  refine wpAny_pure ?_
  show wpAny _ _ (rule "list.extend.makes-room" >>= fun _ => Builtin.List.listTouch (.ref s.heap.objs.size) >>= fun _ => again (.builtin "list.extend.loop" ⟨[.ref s.heap.objs.size, .ref mp, .none], []⟩)) _ _ _
  refine wpAny_bind (wpAny_rule ?_)
  refine wpAny_bind ?_
  show wpAny _ _ (updateSeq s.heap.objs.size (·.push .none) >>= fun _ => updateSeq s.heap.objs.size (·.pop)) _ _ _
  refine wpAny_bind (wpAny_updateSeq hS2 rfl ?_)
  have hS3 := Heap.get?_update_self (Obj.mapSeq (·.push Value.none)) hS2 rfl
  refine wpAny_updateSeq (hz := by seq_fits) hS3 rfl ?_
  have hS4 := Heap.get?_update_self (Obj.mapSeq (·.pop)) hS3 rfl
  have oth2 : ∀ b o, b ≠ s.heap.objs.size → s.heap.get? b = some o → ((((s.heap.push { cls := .type "list", data := .seq #[] }).update s.heap.objs.size (Obj.mapSeq (fun _ => (#[] : Array Value)))).update s.heap.objs.size (Obj.mapSeq (·.push Value.none))).update s.heap.objs.size (Obj.mapSeq (·.pop))).get? b = some o :=
    fun b o hb e => (Heap.get?_update_other _ _ (Ne.symm hb)).trans ((Heap.get?_update_other _ _ (Ne.symm hb)).trans (oth b o hb e))
  refine wpAny_pure ⟨plainId_quiet PySem.F.plain_extend_loop _, ?_⟩
  have keep : ∀ b o, s.heap.get? b = some o → ((((s.heap.push { cls := .type "list", data := .seq #[] }).update s.heap.objs.size (Obj.mapSeq (fun _ => (#[] : Array Value)))).update s.heap.objs.size (Obj.mapSeq (·.push Value.none))).update s.heap.objs.size (Obj.mapSeq (·.pop))).get? b = some o :=
    fun b o e => oth2 b o (Nat.ne_of_lt (Heap.lt_size e)) e
  have F2 := fr_ext F keep
  have N2 := news_ext N keep
  have hlt : ∀ p ∈ ((mp, mapObj tt (.ref q)) :: (tt, tup1 (.ref li)) :: (li, liObj l 0) :: rest), p.1 < s.heap.objs.size := fun p hp => Heap.lt_size (N p hp).1
  have zS : s.heap.objs.size ≠ L ∧ h₀.get? s.heap.objs.size = none := ⟨Ne.symm (Nat.ne_of_lt F.ns.lt), next_is_new F⟩
  refine ext_loop (A := A.in1) (S := s.heap.objs.size) (rest := (mp, mapObj tt (.ref q)) :: (tt, tup1 (.ref li)) :: rest) X T B hA hf hke (by rw [depth_in1]; exact hroom) (show A.in1.handled = none from hh) (Ne.symm (Nat.ne_of_lt (hlt _ (.tail _ (.tail _ (.head _)))))) ?_ (.head _) (.tail _ (.head _)) (.tail _ (.tail _ h3)) (.tail _ (.tail _ h4)) vals [] [] (0 + 1 + 1) { s with heap := ((((s.heap.push { cls := .type "list", data := .seq #[] }).update s.heap.objs.size (Obj.mapSeq (fun _ => (#[] : Array Value)))).update s.heap.objs.size (Obj.mapSeq (·.push Value.none))).update s.heap.objs.size (Obj.mapSeq (·.pop))) } hi rfl (fun v hv' => .tail _ (.tail _ (hv v hv'))) hle (fun x hx => by cases hx) F2 ?_ ?_
  · intro p hp
    rcases List.mem_cons.mp hp with rfl | hp
    · exact ⟨Nat.ne_of_lt (hlt _ (.head _)), Ne.symm (Nat.ne_of_lt (Nat.lt_trans o1 o2))⟩
    · rcases List.mem_cons.mp hp with rfl | hp
      · exact ⟨Nat.ne_of_lt (hlt _ (.tail _ (.head _))), Ne.symm (Nat.ne_of_lt o1)⟩
      · exact ⟨Nat.ne_of_lt (hlt _ (.tail _ (.tail _ (.tail _ hp)))), Nat.ne_of_lt (hr p hp)⟩
  · intro p hp
    rcases List.mem_cons.mp hp with rfl | hp
    · exact ⟨hS4, zS⟩
    · refine N2 p ?_
      simp only [List.zipWith_nil_left, List.nil_append, List.length_nil, List.mem_cons] at hp ⊢
      rcases hp with h | h | h | h <;> simp [h]
  · intro xds c h' tk hl ho F' N'
    refine ⟨rfl, k s.heap.objs.size xds c h' tk hl (fun x hx => (ho x hx).1) (fun p hp => hlt p (.tail _ (.tail _ (.tail _ hp)))) F' fun p hp => N' p ?_⟩
    rcases List.mem_cons.mp hp with rfl | hp
    · exact .head _
    · rcases List.mem_append.mp hp with hp | hp
      · exact .tail _ (List.mem_append_left _ hp)
      · exact .tail _ (List.mem_append_right _ (.tail _ (.tail _ hp)))
end
end Mine
end
section
open PySem PySem.W PySem.Calls PyProof.Rows
set_option maxRecDepth 100000
namespace Mine
section
variable {w : World} {A : Around} {E : Value → Shared → Prop} {s : Shared} {h₀ base : Heap} {A₀ : Around} {outer : List Env} {L a : Addr} {cn : Str} {cs : Scope} {ccd : Value} {m mg mb : Str → Option Value} {mean : ExcName → Option Value} {rest : List (Addr × Obj)} {li l mp tt q : Addr} {n : Nat} {Q : Value → Shared → Prop}
theorem list_map3 {t0 t1 t2 : Addr} {a0 b0 c0 a1 b1 c1 a2 b2 c2 : Value} {items : Array Value} (X : (K w.params).In h₀) (T : Top qv (looseW qv loose) mean mg mb h₀) (B : Below A₀ base outer h₀) (hke : cs.kind = .function) (hroom : A₀.depth < 900) (hh : (A₀.deeper (envOf cn cs L a ccd)).handled = none)
    (F : Fr h₀ L s.heap m) (N : News h₀ L s.heap ((mp, mapObj tt (.ref q)) :: (tt, tup1 (.ref li)) :: (li, liObj l 0) :: rest)) (hr : ∀ p ∈ rest, p.1 < li) (o1 : li < tt) (o2 : tt < mp)
    (h3 : (q, methodObj (.ref 89) (.ref 135)) ∈ rest) (h4 : (l, listOf items n) ∈ rest) (hi : items = #[.ref t0, .ref t1, .ref t2])
    (g0 : (t0, tup3 a0 b0 c0) ∈ rest) (g1 : (t1, tup3 a1 b1 c1) ∈ rest) (g2 : (t2, tup3 a2 b2 c2) ∈ rest)
    (k : ∀ S x0 d0 x1 d1 x2 d2 c h' tk, Fr h₀ L h' m → News h₀ L h' ((S, listOf #[.ref x0, .ref x1, .ref x2] c) :: (x0, mObj d0 a0 b0 c0) :: (x1, mObj d1 a1 b1 c1) :: (x2, mObj d2 a2 b2 c2) :: rest) → (∀ p ∈ rest, p.1 < S) → S < x0 → S < x1 → S < x2 → Q (.ref S) { s with heap := h', toks := tk }) :
    wpAny (model pw w) (A₀.deeper (envOf cn cs L a ccd)) (call (.type "list") [.ref mp]) Q E s := by
  subst hi
  refine list_map (env := envOf cn cs L a ccd) X T B (by show Option.map _ A₀.frames = _; rw [B.stack]; rfl) rfl hke (by simp only [depth_deeper]; show A₀.depth + 1 < 1000; omega) hh F N hr o1 o2 h3 h4 [(t0, a0, b0, c0), (t1, a1, b1, c1), (t2, a2, b2, c2)] rfl ?_ (by simp) ?_
  · intro v hv
    simp only [List.mem_cons, List.not_mem_nil, or_false] at hv
    rcases hv with rfl | rfl | rfl
    · exact g0
    · exact g1
    · exact g2
  · intro S xds c h' tk hl hS hlt F' N'
    match xds, hl with
    | [x0, x1, x2], _ => exact k S x0.1 x0.2 x1.1 x1.2 x2.1 x2.2 c h' tk F' N' hlt (hS _ (.head _)) (hS _ (.tail _ (.head _))) (hS _ (.tail _ (.tail _ (.head _))))
theorem list_map4 {t0 t1 t2 t3 : Addr} {a0 b0 c0 a1 b1 c1 a2 b2 c2 a3 b3 c3 : Value} {items : Array Value} (X : (K w.params).In h₀) (T : Top qv (looseW qv loose) mean mg mb h₀) (B : Below A₀ base outer h₀) (hke : cs.kind = .function) (hroom : A₀.depth < 900) (hh : (A₀.deeper (envOf cn cs L a ccd)).handled = none)
    (F : Fr h₀ L s.heap m) (N : News h₀ L s.heap ((mp, mapObj tt (.ref q)) :: (tt, tup1 (.ref li)) :: (li, liObj l 0) :: rest)) (hr : ∀ p ∈ rest, p.1 < li) (o1 : li < tt) (o2 : tt < mp)
    (h3 : (q, methodObj (.ref 89) (.ref 135)) ∈ rest) (h4 : (l, listOf items n) ∈ rest) (hi : items = #[.ref t0, .ref t1, .ref t2, .ref t3])
    (g0 : (t0, tup3 a0 b0 c0) ∈ rest) (g1 : (t1, tup3 a1 b1 c1) ∈ rest) (g2 : (t2, tup3 a2 b2 c2) ∈ rest) (g3 : (t3, tup3 a3 b3 c3) ∈ rest)
    (k : ∀ S x0 d0 x1 d1 x2 d2 x3 d3 c h' tk, Fr h₀ L h' m → News h₀ L h' ((S, listOf #[.ref x0, .ref x1, .ref x2, .ref x3] c) :: (x0, mObj d0 a0 b0 c0) :: (x1, mObj d1 a1 b1 c1) :: (x2, mObj d2 a2 b2 c2) :: (x3, mObj d3 a3 b3 c3) :: rest) → (∀ p ∈ rest, p.1 < S) → S < x0 → S < x1 → S < x2 → S < x3 → Q (.ref S) { s with heap := h', toks := tk }) :
    wpAny (model pw w) (A₀.deeper (envOf cn cs L a ccd)) (call (.type "list") [.ref mp]) Q E s := by
  subst hi
  refine list_map (env := envOf cn cs L a ccd) X T B (by show Option.map _ A₀.frames = _; rw [B.stack]; rfl) rfl hke (by simp only [depth_deeper]; show A₀.depth + 1 < 1000; omega) hh F N hr o1 o2 h3 h4 [(t0, a0, b0, c0), (t1, a1, b1, c1), (t2, a2, b2, c2), (t3, a3, b3, c3)] rfl ?_ (by simp) ?_
  · intro v hv
    simp only [List.mem_cons, List.not_mem_nil, or_false] at hv
    rcases hv with rfl | rfl | rfl | rfl
    · exact g0
    · exact g1
    · exact g2
    · exact g3
  · intro S xds c h' tk hl hS hlt F' N'
    match xds, hl with
    | [x0, x1, x2, x3], _ => exact k S x0.1 x0.2 x1.1 x1.2 x2.1 x2.2 x3.1 x3.2 c h' tk F' N' hlt (hS _ (.head _)) (hS _ (.tail _ (.head _))) (hS _ (.tail _ (.tail _ (.head _)))) (hS _ (.tail _ (.tail _ (.tail _ (.head _)))))
end
end Mine
end
theorem Mine.flush8 {M : PySem.Model} {A : PySem.Around} {env : PySem.Env} {E : PySem.Value → PySem.Shared → Prop} {Q : PySem.Flow → PySem.Shared → Prop} {s : PySem.Shared} (h : Q .next s) : PySem.wpAny M A (PySem.execs [] env) Q E s := by first | (walk1; exact h) | exact PySem.wpAny_execs_nil h
section
open PySem PySem.W PySem.Calls PyProof.Rows
set_option maxRecDepth 100000
namespace Mine
local macro_rules | `(tactic| k_all) => `(tactic| assumption)
noncomputable def NTurn : List Stmt := forBody (nth B203 9)
/-- the names of a turn -/
noncomputable abbrev nI (M na : Addr) (la lb i1 j1 k1 i2 j2 k2 : Value) : List (Str × Value) := [(Str.ofString "self", .ref M), (Str.ofString "la", la), (Str.ofString "lb", lb), (Str.ofString "non_adjacent", .ref na), (Str.ofString "i1", i1), (Str.ofString "j1", j1), (Str.ofString "k1", k1), (Str.ofString "i2", i2), (Str.ofString "j2", j2), (Str.ofString "k2", k2)]
noncomputable abbrev nO (M na : Addr) (la lb i1 j1 k1 : Value) : List (Str × Value) := [(Str.ofString "self", .ref M), (Str.ofString "la", la), (Str.ofString "lb", lb), (Str.ofString "non_adjacent", .ref na), (Str.ofString "i1", i1), (Str.ofString "j1", j1), (Str.ofString "k1", k1)]
theorem pk_n {g h : Heap} {L : Addr} {a b c : Addr × Obj} {rest : List (Addr × Obj)} (N : News g L h (a :: b :: c :: rest)) : News g L h (c :: b :: rest) := news_sub N fun p hp => by
  simp only [List.mem_cons] at hp ⊢
  rcases hp with h | h | h <;> simp [h]
set_option maxHeartbeats 4000000 in
theorem n_merge {w : World} {e1 : Env} {s : Shared} {g : Heap} {L na : Addr} {mg mb m : Str → Option Value} {mean : ExcName → Option Value} {Q : Flow → Shared → Prop} {news : List (Addr × Obj)} {M : Addr} {vla vlb : Value} {i1 j1 k1 i2 j2 k2 : Int} {t1 t2 t3 u1 u2 u3 : Tok}
    (X : (K w.params).In g) (T : Top qv (looseW qv loose) mean mg mb g)
    (F : Fr g L s.heap (over (nI M na vla vlb (.int i1 t1) (.int j1 t2) (.int k1 t3) (.int i2 u1) (.int j2 u2) (.int k2 u3)) m)) (N : News g L s.heap news) (q0 : i1 + k1 = i2) (q1 : j1 + k1 = j2)
    (k : ∀ h' tk m' v1 v2 v3, Fr g L h' (over (nO M na vla vlb (.int i1 v1) (.int j1 v2) (.int (k1 + k2) v3)) m') → News g L h' news → Q .next { s with heap := h', toks := tk }) :
    wpAny (model pw w) ((callerA.deeper e1).deeper (envG L)) (execs NTurn (envG L)) Q (fun _ _ => False) s := by
  conv in NTurn => whnf
  show wpAny _ _ (execs _ _) _ _ _
  obtain ⟨hp, gn, dr, tk, os⟩ := s
  dsimp only at F N k
  repeat' (first | ((with_reducible show wpAny _ _ (execs _ _) _ _ _); exfalso; omega) | (walk1; all_goals (try dsimp only); all_goals (try ((with_reducible refine wp_tok ?_); intro tk))) | (dsimp only; walk1))
  rename Fr g L _ _ => F9
  rename News g L _ _ => N9
  exact k _ _ _ _ _ _ (fr_over (S := nO M na vla vlb (.int i1 _) (.int j1 _) (.int (k1 + k2) _)) F9 (by repeat (first | exact List.forall_mem_nil _ | refine List.forall_mem_cons.mpr ⟨rfl, ?_⟩))) N9
set_option maxHeartbeats 4000000 in
theorem n_push0 {w : World} {e1 : Env} {s : Shared} {g : Heap} {L na : Addr} {mg mb m : Str → Option Value} {mean : ExcName → Option Value} {Q : Flow → Shared → Prop} {M : Addr} {vla vlb : Value} {rest : List (Addr × Obj)} {arr : Array Value} {n : Nat} {i1 j1 k1 i2 j2 k2 : Int} {t1 t2 t3 u1 u2 u3 : Tok}
    (X : (K w.params).In g) (T : Top qv (looseW qv loose) mean mg mb g)
    (F : Fr g L s.heap (over (nI M na vla vlb (.int i1 t1) (.int j1 t2) (.int k1 t3) (.int i2 u1) (.int j2 u2) (.int k2 u3)) m)) (N : News g L s.heap ((na, listOf arr n) :: rest)) (hrest : ∀ p ∈ rest, p.1 ≠ na) (hsz : arr.size ≤ 100) (q0 : ¬ (i1 + k1 = i2 ∧ j1 + k1 = j2)) (q1 : k1 ≠ 0)
    (k : ∀ y w1 w2 w3 n' h' tk m' v1 v2 v3, Fr g L h' (over (nO M na vla vlb (.int i2 v1) (.int j2 v2) (.int k2 v3)) m') → News g L h' ((na, listOf (arr.push (.ref y)) n') :: (y, tup3 (.int i1 w1) (.int j1 w2) (.int k1 w3)) :: rest) → @Ne Nat y na → Q .next { s with heap := h', toks := tk }) :
    wpAny (model pw w) ((callerA.deeper e1).deeper (envG L)) (execs NTurn (envG L)) Q (fun _ _ => False) s := by
  conv in NTurn => whnf
  show wpAny _ _ (execs _ _) _ _ _
  obtain ⟨hp, gn, dr, tk, os⟩ := s
  dsimp only at F N k
  repeat' (first | ((with_reducible show wpAny _ _ (execs _ _) _ _ _); exfalso; omega) | (walk1; all_goals (try dsimp only); all_goals (try ((with_reducible refine wp_tok ?_); intro tk))) | (dsimp only; walk1))
  all_goals (
    rename Fr g L _ _ => F9
    rename News g L _ _ => N9
    have N10 := pk_n N9
    exact k _ _ _ _ _ _ _ _ _ _ _ (fr_over (S := nO M na vla vlb (.int i2 _) (.int j2 _) (.int k2 _)) F9 (by repeat (first | exact List.forall_mem_nil _ | refine List.forall_mem_cons.mpr ⟨rfl, ?_⟩))) N10 (ne_cls N10 (.tail _ (.head _)) (.head _) (fun e => absurd (Value.type.inj e) (by decide))))
theorem n_push {w : World} {e1 : Env} {s : Shared} {g : Heap} {L na : Addr} {mg mb m : Str → Option Value} {mean : ExcName → Option Value} {Q : Flow → Shared → Prop} {news : List (Addr × Obj)} {gg : Obj → List (Addr × Obj)} {M : Addr} {vla vlb : Value} {arr : Array Value} {n : Nat} {i1 j1 k1 i2 j2 k2 : Int} {t1 t2 t3 u1 u2 u3 : Tok}
    (X : (K w.params).In g) (T : Top qv (looseW qv loose) mean mg mb g)
    (F : Fr g L s.heap (over (nI M na vla vlb (.int i1 t1) (.int j1 t2) (.int k1 t3) (.int i2 u1) (.int j2 u2) (.int k2 u3)) m)) (N : News g L s.heap news) (U : UpdF na (listOf arr n) news gg) (hsz : arr.size ≤ 100) (q0 : ¬ (i1 + k1 = i2 ∧ j1 + k1 = j2)) (q1 : k1 ≠ 0)
    (k : ∀ y w1 w2 w3 n' h' tk m' v1 v2 v3, Fr g L h' (over (nO M na vla vlb (.int i2 v1) (.int j2 v2) (.int k2 v3)) m') → News g L h' ((y, tup3 (.int i1 w1) (.int j1 w2) (.int k1 w3)) :: gg (listOf (arr.push (.ref y)) n')) → @Ne Nat y na → Q .next { s with heap := h', toks := tk }) :
    wpAny (model pw w) ((callerA.deeper e1).deeper (envG L)) (execs NTurn (envG L)) Q (fun _ _ => False) s := by
  obtain ⟨pre, post, rfl, hg, x1, x2⟩ := U.split
  refine n_push0 (rest := pre ++ post) X T F (news_sub N (fun p hp => mem_front hp)) (fun p hp => (List.mem_append.mp hp).elim (x1 p) (x2 p)) hsz q0 q1 ?_
  intro y w1 w2 w3 n' h' tk m' v1 v2 v3 F' N' ne
  refine k y w1 w2 w3 n' h' tk m' v1 v2 v3 F' ?_ ne
  rw [hg]
  exact news_sub N' fun p hp => by
    simp only [List.mem_cons, List.mem_append] at hp ⊢
    rcases hp with h | h | h | h <;> simp [h]
end Mine
end
theorem Mine.flush9 {M : PySem.Model} {A : PySem.Around} {env : PySem.Env} {E : PySem.Value → PySem.Shared → Prop} {Q : PySem.Flow → PySem.Shared → Prop} {s : PySem.Shared} (h : Q .next s) : PySem.wpAny M A (PySem.execs [] env) Q E s := by first | (walk1; exact h) | exact PySem.wpAny_execs_nil h
section
open PySem PySem.W PySem.Calls PyProof.Rows
set_option maxRecDepth 100000
namespace Mine
local macro_rules | `(tactic| k_all) => `(tactic| assumption)
noncomputable def GT : List Stmt := B203.drop 7
noncomputable abbrev gS (M : Addr) (la lb : Value) (mb : Addr) : List (Str × Value) := [(Str.ofString "self", .ref M), (Str.ofString "la", la), (Str.ofString "lb", lb), (Str.ofString "matching_blocks", .ref mb)]
set_option maxHeartbeats 4000000 in
theorem gmb_tail2 {w : World} {e1 : Env} {s : Shared} {g base : Heap} {outer : List Env} {L M dM la lb D S1 mb x0 x1 d0 d1 : Addr} {mg mbl m' : Str → Option Value} {mean : ExcName → Option Value} {t : Nat → Tok} {vop vbp : Value} {Q : Flow → Shared → Prop} {n : Nat}
    {na nb a0 b0 c0 a1 b1 c1 : Int} {ta tb u1 u2 u3 v1 v2 v3 : Tok}
    (X : (K w.params).In g) (T : Top qv (looseW qv loose) mean mg mbl g) (B : Below (callerA.deeper e1) base outer g)
    (F : Fr g L s.heap (over (gS M (.int na ta) (.int nb tb) mb) m'))
    (N : News g L s.heap [(mb, listOf #[.ref x0, .ref x1] n), (x0, mObj d0 (.int a0 u1) (.int b0 u2) (.int c0 u3)), (x1, mObj d1 (.int a1 v1) (.int b1 v2) (.int c1 v3)), (M, instObj 242 dM), (dM, flmD w.params t la lb .none vop D S1 vbp)])
    (q0 : a0 = 0) (q1 : b0 = 0) (q2 : c0 ≠ 0) (q3 : c0 ≠ a1) (q4 : c1 ≠ 0) (o1 : @LT.lt Nat _ dM M) (o2 : @LT.lt Nat _ dM mb) (o3 : @LT.lt Nat _ dM x0) (o4 : @LT.lt Nat _ dM x1)
    (k : ∀ S x0 d0 x1 d1 x2 d2 c h' tk m' p0 p1 p2 p3 p4 p5 p6 p7 p8, Fr g L h' m' → News g L h' [(S, listOf #[.ref x0, .ref x1, .ref x2] c), (x0, mObj d0 (.int 0 p0) (.int 0 p1) (.int (0 + c0) p2)), (x1, mObj d1 (.int a1 p3) (.int b1 p4) (.int c1 p5)), (x2, mObj d2 (.int na p6) (.int nb p7) (.int 0 p8)), (M, instObj 242 dM), (dM, flmD w.params t la lb (.ref S) vop D S1 vbp)] → @LT.lt Nat _ dM S → @LT.lt Nat _ S x0 → @LT.lt Nat _ S x1 → @LT.lt Nat _ S x2 → Q (.ret (.ref S)) { s with heap := h', toks := tk }) :
    wpAny (model pw w) ((callerA.deeper e1).deeper (envG L)) (execs GT (envG L)) Q (fun _ _ => False) s := by
  subst q0 q1
  conv in GT => whnf
  show wpAny _ _ (execs _ _) _ _ _
  obtain ⟨hp, gn, dr, tk, os⟩ := s
  dsimp only at F N k
  repeat' ((fail_if_success (with_reducible show wpAny _ _ (execs (Stmt.If (PySem.Expr.BoolOp _ _ _) _ _ _ :: _) _) _ _ _)); (first | ((with_reducible show wpAny _ _ (execs _ _) _ _ _); exfalso; omega) | ((first | (k_here; (with_reducible show wpAny _ _ (call (Value.type "list") _) _ _ _); k_dflt (refine list_map3 (by k_asm) (by k_asm) (by k_asm) (by exact rfl) (by (simp only [depth_deeper, depth_caller]; decide)) (by exact rfl) (by k_asm) (by k_asm) (by assumption) (by assumption) (by assumption) (by k_mem) (by k_mem) (by exact rfl) (by k_mem) (by k_mem) (by k_mem) ?_); intro S' x0' d0' x1' d1' x2' d2' c' h' tk' F' N' l1 l2 l3 l4; (replace l2 := ltN l2); (replace l3 := ltN l3); (replace l4 := ltN l4); (try k_lt l1); (try k_sweep)) | (k_here; (with_reducible show wpAny _ _ (call (Value.type "map") _) _ _ _); k_dflt (refine mapN (by k_asm) (by k_asm) (by k_mem) ?_); intro li' tt' mp' h' F' N' l1 l2 l3) | (k_here; (with_reducible show wpAny _ _ (assign (Expr.Tuple _ _ _) _ (Value.ref _)) _ _ _); k_dflt (refine unpackM (by k_asm) (by k_asm) (by k_asm) (by k_mem) (by exact rfl) (by exact rfl) (by exact rfl) ?_); intro h' F' N'; (try k_sweep)) | walk1); all_goals (try dsimp only); all_goals (try ((with_reducible refine wp_tok ?_); intro tk))) | (dsimp only; (first | (k_here; (with_reducible show wpAny _ _ (call (Value.type "list") _) _ _ _); k_dflt (refine list_map3 (by k_asm) (by k_asm) (by k_asm) (by exact rfl) (by (simp only [depth_deeper, depth_caller]; decide)) (by exact rfl) (by k_asm) (by k_asm) (by assumption) (by assumption) (by assumption) (by k_mem) (by k_mem) (by exact rfl) (by k_mem) (by k_mem) (by k_mem) ?_); intro S' x0' d0' x1' d1' x2' d2' c' h' tk' F' N' l1 l2 l3 l4; (replace l2 := ltN l2); (replace l3 := ltN l3); (replace l4 := ltN l4); (try k_lt l1); (try k_sweep)) | (k_here; (with_reducible show wpAny _ _ (call (Value.type "map") _) _ _ _); k_dflt (refine mapN (by k_asm) (by k_asm) (by k_mem) ?_); intro li' tt' mp' h' F' N' l1 l2 l3) | (k_here; (with_reducible show wpAny _ _ (assign (Expr.Tuple _ _ _) _ (Value.ref _)) _ _ _); k_dflt (refine unpackM (by k_asm) (by k_asm) (by k_asm) (by k_mem) (by exact rfl) (by exact rfl) (by exact rfl) ?_); intro h' F' N'; (try k_sweep)) | walk1)) | ((change UnrEndW _ _ _ _ _ _); ktu_end)))
  rename Fr g L _ _ => F0a
  rename News g L _ _ => N0a
  refine n_merge X T (fr_over (S := nI M _ (.int na _) (.int nb _) (.int 0 _) (.int 0 _) (.int 0 _) (.int 0 _) (.int 0 _) (.int c0 _)) F0a (by repeat (first | exact List.forall_mem_nil _ | refine List.forall_mem_cons.mpr ⟨rfl, ?_⟩))) N0a (by omega) (by omega) ?_
  clear F0a N0a
  intro h0x tk0x mm0 vv0 vw0 vz0 G0 M0
  try dsimp only
  repeat' ((fail_if_success (with_reducible show wpAny _ _ (execs (Stmt.If (PySem.Expr.BoolOp _ _ _) _ _ _ :: _) _) _ _ _)); (first | ((with_reducible show wpAny _ _ (execs _ _) _ _ _); exfalso; omega) | ((first | (k_here; (with_reducible show wpAny _ _ (call (Value.type "list") _) _ _ _); k_dflt (refine list_map3 (by k_asm) (by k_asm) (by k_asm) (by exact rfl) (by (simp only [depth_deeper, depth_caller]; decide)) (by exact rfl) (by k_asm) (by k_asm) (by assumption) (by assumption) (by assumption) (by k_mem) (by k_mem) (by exact rfl) (by k_mem) (by k_mem) (by k_mem) ?_); intro S' x0' d0' x1' d1' x2' d2' c' h' tk' F' N' l1 l2 l3 l4; (replace l2 := ltN l2); (replace l3 := ltN l3); (replace l4 := ltN l4); (try k_lt l1); (try k_sweep)) | (k_here; (with_reducible show wpAny _ _ (call (Value.type "map") _) _ _ _); k_dflt (refine mapN (by k_asm) (by k_asm) (by k_mem) ?_); intro li' tt' mp' h' F' N' l1 l2 l3) | (k_here; (with_reducible show wpAny _ _ (assign (Expr.Tuple _ _ _) _ (Value.ref _)) _ _ _); k_dflt (refine unpackM (by k_asm) (by k_asm) (by k_asm) (by k_mem) (by exact rfl) (by exact rfl) (by exact rfl) ?_); intro h' F' N'; (try k_sweep)) | walk1); all_goals (try dsimp only); all_goals (try ((with_reducible refine wp_tok ?_); intro tk))) | (dsimp only; (first | (k_here; (with_reducible show wpAny _ _ (call (Value.type "list") _) _ _ _); k_dflt (refine list_map3 (by k_asm) (by k_asm) (by k_asm) (by exact rfl) (by (simp only [depth_deeper, depth_caller]; decide)) (by exact rfl) (by k_asm) (by k_asm) (by assumption) (by assumption) (by assumption) (by k_mem) (by k_mem) (by exact rfl) (by k_mem) (by k_mem) (by k_mem) ?_); intro S' x0' d0' x1' d1' x2' d2' c' h' tk' F' N' l1 l2 l3 l4; (replace l2 := ltN l2); (replace l3 := ltN l3); (replace l4 := ltN l4); (try k_lt l1); (try k_sweep)) | (k_here; (with_reducible show wpAny _ _ (call (Value.type "map") _) _ _ _); k_dflt (refine mapN (by k_asm) (by k_asm) (by k_mem) ?_); intro li' tt' mp' h' F' N' l1 l2 l3) | (k_here; (with_reducible show wpAny _ _ (assign (Expr.Tuple _ _ _) _ (Value.ref _)) _ _ _); k_dflt (refine unpackM (by k_asm) (by k_asm) (by k_asm) (by k_mem) (by exact rfl) (by exact rfl) (by exact rfl) ?_); intro h' F' N'; (try k_sweep)) | walk1)) | ((change UnrEndW _ _ _ _ _ _); ktu_end)))
  rename Fr g L _ _ => F1a
  rename News g L _ _ => N1a
  refine n_push X T (fr_over (S := nI M _ (.int na _) (.int nb _) (.int 0 _) (.int 0 _) (.int (0 + c0) _) (.int a1 _) (.int b1 _) (.int c1 _)) F1a (by repeat (first | exact List.forall_mem_nil _ | refine List.forall_mem_cons.mpr ⟨rfl, ?_⟩))) N1a (by k_updF) (Nat.le_of_ble_eq_true rfl) (by omega) (by omega) ?_
  clear F1a N1a
  intro y1 wa1 wb1 wc1 nn1 h1x tk1x mm1 vv1 vw1 vz1 G1 M1 ney1
  try dsimp only at M1
  replace M1 := news_swap M1
  have nd1 : @Ne Nat y1 dM := ne_cls M1 (by k_mem) (by k_mem) (fun e => absurd (Value.type.inj e) (by decide))
  try dsimp only
  repeat' ((fail_if_success (with_reducible show wpAny _ _ (execs (Stmt.If (PySem.Expr.BoolOp _ _ _) _ _ _ :: _) _) _ _ _)); (first | ((with_reducible show wpAny _ _ (execs _ _) _ _ _); exfalso; omega) | ((first | (k_here; (with_reducible show wpAny _ _ (call (Value.type "list") _) _ _ _); k_dflt (refine list_map3 (by k_asm) (by k_asm) (by k_asm) (by exact rfl) (by (simp only [depth_deeper, depth_caller]; decide)) (by exact rfl) (by k_asm) (by k_asm) (by assumption) (by assumption) (by assumption) (by k_mem) (by k_mem) (by exact rfl) (by k_mem) (by k_mem) (by k_mem) ?_); intro S' x0' d0' x1' d1' x2' d2' c' h' tk' F' N' l1 l2 l3 l4; (replace l2 := ltN l2); (replace l3 := ltN l3); (replace l4 := ltN l4); (try k_lt l1); (try k_sweep)) | (k_here; (with_reducible show wpAny _ _ (call (Value.type "map") _) _ _ _); k_dflt (refine mapN (by k_asm) (by k_asm) (by k_mem) ?_); intro li' tt' mp' h' F' N' l1 l2 l3) | (k_here; (with_reducible show wpAny _ _ (assign (Expr.Tuple _ _ _) _ (Value.ref _)) _ _ _); k_dflt (refine unpackM (by k_asm) (by k_asm) (by k_asm) (by k_mem) (by exact rfl) (by exact rfl) (by exact rfl) ?_); intro h' F' N'; (try k_sweep)) | walk1); all_goals (try dsimp only); all_goals (try ((with_reducible refine wp_tok ?_); intro tk))) | (dsimp only; (first | (k_here; (with_reducible show wpAny _ _ (call (Value.type "list") _) _ _ _); k_dflt (refine list_map3 (by k_asm) (by k_asm) (by k_asm) (by exact rfl) (by (simp only [depth_deeper, depth_caller]; decide)) (by exact rfl) (by k_asm) (by k_asm) (by assumption) (by assumption) (by assumption) (by k_mem) (by k_mem) (by exact rfl) (by k_mem) (by k_mem) (by k_mem) ?_); intro S' x0' d0' x1' d1' x2' d2' c' h' tk' F' N' l1 l2 l3 l4; (replace l2 := ltN l2); (replace l3 := ltN l3); (replace l4 := ltN l4); (try k_lt l1); (try k_sweep)) | (k_here; (with_reducible show wpAny _ _ (call (Value.type "map") _) _ _ _); k_dflt (refine mapN (by k_asm) (by k_asm) (by k_mem) ?_); intro li' tt' mp' h' F' N' l1 l2 l3) | (k_here; (with_reducible show wpAny _ _ (assign (Expr.Tuple _ _ _) _ (Value.ref _)) _ _ _); k_dflt (refine unpackM (by k_asm) (by k_asm) (by k_asm) (by k_mem) (by exact rfl) (by exact rfl) (by exact rfl) ?_); intro h' F' N'; (try k_sweep)) | walk1)) | ((change UnrEndW _ _ _ _ _ _); ktu_end)))
  rename Fr g L _ _ => F9
  rename News g L _ _ => N9
  exact k _ _ _ _ _ _ _ _ _ _ _ _ _ _ _ _ _ _ _ _ F9 (news_sub N9 (by repeat (first | exact List.forall_mem_nil _ | refine List.forall_mem_cons.mpr ⟨by (first | k_mem | (repeat (first | exact List.Mem.head _ | apply List.Mem.tail))), ?_⟩))) (by omega) (by omega) (by omega) (by omega)
end Mine
end
theorem Mine.flush10 {M : PySem.Model} {A : PySem.Around} {env : PySem.Env} {E : PySem.Value → PySem.Shared → Prop} {Q : PySem.Flow → PySem.Shared → Prop} {s : PySem.Shared} (h : Q .next s) : PySem.wpAny M A (PySem.execs [] env) Q E s := by first | (walk1; exact h) | exact PySem.wpAny_execs_nil h
section
open PySem PySem.W PySem.Calls PyProof.Rows
set_option maxRecDepth 100000
namespace Mine
local macro_rules | `(tactic| k_all) => `(tactic| assumption)
set_option maxHeartbeats 4000000 in
theorem gmb_tail3 {w : World} {e1 : Env} {s : Shared} {g base : Heap} {outer : List Env} {L M dM la lb D S1 mb x0 x1 x2 d0 d1 d2 : Addr} {mg mbl m' : Str → Option Value} {mean : ExcName → Option Value} {t : Nat → Tok} {vop vbp : Value} {Q : Flow → Shared → Prop} {n : Nat}
    {na nb a0 b0 c0 a1 b1 c1 a2 b2 c2 : Int} {ta tb u1 u2 u3 v1 v2 v3 w1 w2 w3 : Tok}
    (X : (K w.params).In g) (T : Top qv (looseW qv loose) mean mg mbl g) (B : Below (callerA.deeper e1) base outer g)
    (F : Fr g L s.heap (over (gS M (.int na ta) (.int nb tb) mb) m'))
    (N : News g L s.heap [(mb, listOf #[.ref x0, .ref x1, .ref x2] n), (x0, mObj d0 (.int a0 u1) (.int b0 u2) (.int c0 u3)), (x1, mObj d1 (.int a1 v1) (.int b1 v2) (.int c1 v3)), (x2, mObj d2 (.int a2 w1) (.int b2 w2) (.int c2 w3)), (M, instObj 242 dM), (dM, flmD w.params t la lb .none vop D S1 vbp)])
    (q0 : a0 = 0) (q1 : b0 = 0) (q2 : c0 ≠ 0) (q3 : c0 ≠ a1) (q4 : c1 ≠ 0) (q5 : a1 + c1 = a2) (q6 : b1 + c1 ≠ b2) (q7 : c2 ≠ 0) (o1 : @LT.lt Nat _ dM M) (o2 : @LT.lt Nat _ dM mb) (o3 : @LT.lt Nat _ dM x0) (o4 : @LT.lt Nat _ dM x1) (o5 : @LT.lt Nat _ dM x2)
    (k : ∀ S x0 d0 x1 d1 x2 d2 x3 d3 c h' tk m' p0 p1 p2 p3 p4 p5 p6 p7 p8 p9 p10 p11, Fr g L h' m' → News g L h' [(S, listOf #[.ref x0, .ref x1, .ref x2, .ref x3] c), (x0, mObj d0 (.int 0 p0) (.int 0 p1) (.int (0 + c0) p2)), (x1, mObj d1 (.int a1 p3) (.int b1 p4) (.int c1 p5)), (x2, mObj d2 (.int a2 p6) (.int b2 p7) (.int c2 p8)), (x3, mObj d3 (.int na p9) (.int nb p10) (.int 0 p11)), (M, instObj 242 dM), (dM, flmD w.params t la lb (.ref S) vop D S1 vbp)] → @LT.lt Nat _ dM S → @LT.lt Nat _ S x0 → @LT.lt Nat _ S x1 → @LT.lt Nat _ S x2 → @LT.lt Nat _ S x3 → Q (.ret (.ref S)) { s with heap := h', toks := tk }) :
    wpAny (model pw w) ((callerA.deeper e1).deeper (envG L)) (execs GT (envG L)) Q (fun _ _ => False) s := by
  subst q0 q1
  conv in GT => whnf
  show wpAny _ _ (execs _ _) _ _ _
  obtain ⟨hp, gn, dr, tk, os⟩ := s
  dsimp only at F N k
  repeat' ((fail_if_success (with_reducible show wpAny _ _ (execs (Stmt.If (PySem.Expr.BoolOp _ _ _) _ _ _ :: _) _) _ _ _)); (first | ((with_reducible show wpAny _ _ (execs _ _) _ _ _); exfalso; omega) | ((first | (k_here; (with_reducible show wpAny _ _ (call (Value.type "list") _) _ _ _); k_dflt (refine list_map4 (by k_asm) (by k_asm) (by k_asm) (by exact rfl) (by (simp only [depth_deeper, depth_caller]; decide)) (by exact rfl) (by k_asm) (by k_asm) (by assumption) (by assumption) (by assumption) (by k_mem) (by k_mem) (by exact rfl) (by k_mem) (by k_mem) (by k_mem) (by k_mem) ?_); intro S' x0' d0' x1' d1' x2' d2' x3' d3' c' h' tk' F' N' l1 l2 l3 l4 l5; (replace l2 := ltN l2); (replace l3 := ltN l3); (replace l4 := ltN l4); (replace l5 := ltN l5); (try k_lt l1); (try k_sweep)) | (k_here; (with_reducible show wpAny _ _ (call (Value.type "map") _) _ _ _); k_dflt (refine mapN (by k_asm) (by k_asm) (by k_mem) ?_); intro li' tt' mp' h' F' N' l1 l2 l3) | (k_here; (with_reducible show wpAny _ _ (assign (Expr.Tuple _ _ _) _ (Value.ref _)) _ _ _); k_dflt (refine unpackM (by k_asm) (by k_asm) (by k_asm) (by k_mem) (by exact rfl) (by exact rfl) (by exact rfl) ?_); intro h' F' N'; (try k_sweep)) | walk1); all_goals (try dsimp only); all_goals (try ((with_reducible refine wp_tok ?_); intro tk))) | (dsimp only; (first | (k_here; (with_reducible show wpAny _ _ (call (Value.type "list") _) _ _ _); k_dflt (refine list_map4 (by k_asm) (by k_asm) (by k_asm) (by exact rfl) (by (simp only [depth_deeper, depth_caller]; decide)) (by exact rfl) (by k_asm) (by k_asm) (by assumption) (by assumption) (by assumption) (by k_mem) (by k_mem) (by exact rfl) (by k_mem) (by k_mem) (by k_mem) (by k_mem) ?_); intro S' x0' d0' x1' d1' x2' d2' x3' d3' c' h' tk' F' N' l1 l2 l3 l4 l5; (replace l2 := ltN l2); (replace l3 := ltN l3); (replace l4 := ltN l4); (replace l5 := ltN l5); (try k_lt l1); (try k_sweep)) | (k_here; (with_reducible show wpAny _ _ (call (Value.type "map") _) _ _ _); k_dflt (refine mapN (by k_asm) (by k_asm) (by k_mem) ?_); intro li' tt' mp' h' F' N' l1 l2 l3) | (k_here; (with_reducible show wpAny _ _ (assign (Expr.Tuple _ _ _) _ (Value.ref _)) _ _ _); k_dflt (refine unpackM (by k_asm) (by k_asm) (by k_asm) (by k_mem) (by exact rfl) (by exact rfl) (by exact rfl) ?_); intro h' F' N'; (try k_sweep)) | walk1)) | ((change UnrEndW _ _ _ _ _ _); ktu_end)))
  rename Fr g L _ _ => F0a
  rename News g L _ _ => N0a
  refine n_merge X T (fr_over (S := nI M _ (.int na _) (.int nb _) (.int 0 _) (.int 0 _) (.int 0 _) (.int 0 _) (.int 0 _) (.int c0 _)) F0a (by repeat (first | exact List.forall_mem_nil _ | refine List.forall_mem_cons.mpr ⟨rfl, ?_⟩))) N0a (by omega) (by omega) ?_
  clear F0a N0a
  intro h0x tk0x mm0 vv0 vw0 vz0 G0 M0
  try dsimp only
  repeat' ((fail_if_success (with_reducible show wpAny _ _ (execs (Stmt.If (PySem.Expr.BoolOp _ _ _) _ _ _ :: _) _) _ _ _)); (first | ((with_reducible show wpAny _ _ (execs _ _) _ _ _); exfalso; omega) | ((first | (k_here; (with_reducible show wpAny _ _ (call (Value.type "list") _) _ _ _); k_dflt (refine list_map4 (by k_asm) (by k_asm) (by k_asm) (by exact rfl) (by (simp only [depth_deeper, depth_caller]; decide)) (by exact rfl) (by k_asm) (by k_asm) (by assumption) (by assumption) (by assumption) (by k_mem) (by k_mem) (by exact rfl) (by k_mem) (by k_mem) (by k_mem) (by k_mem) ?_); intro S' x0' d0' x1' d1' x2' d2' x3' d3' c' h' tk' F' N' l1 l2 l3 l4 l5; (replace l2 := ltN l2); (replace l3 := ltN l3); (replace l4 := ltN l4); (replace l5 := ltN l5); (try k_lt l1); (try k_sweep)) | (k_here; (with_reducible show wpAny _ _ (call (Value.type "map") _) _ _ _); k_dflt (refine mapN (by k_asm) (by k_asm) (by k_mem) ?_); intro li' tt' mp' h' F' N' l1 l2 l3) | (k_here; (with_reducible show wpAny _ _ (assign (Expr.Tuple _ _ _) _ (Value.ref _)) _ _ _); k_dflt (refine unpackM (by k_asm) (by k_asm) (by k_asm) (by k_mem) (by exact rfl) (by exact rfl) (by exact rfl) ?_); intro h' F' N'; (try k_sweep)) | walk1); all_goals (try dsimp only); all_goals (try ((with_reducible refine wp_tok ?_); intro tk))) | (dsimp only; (first | (k_here; (with_reducible show wpAny _ _ (call (Value.type "list") _) _ _ _); k_dflt (refine list_map4 (by k_asm) (by k_asm) (by k_asm) (by exact rfl) (by (simp only [depth_deeper, depth_caller]; decide)) (by exact rfl) (by k_asm) (by k_asm) (by assumption) (by assumption) (by assumption) (by k_mem) (by k_mem) (by exact rfl) (by k_mem) (by k_mem) (by k_mem) (by k_mem) ?_); intro S' x0' d0' x1' d1' x2' d2' x3' d3' c' h' tk' F' N' l1 l2 l3 l4 l5; (replace l2 := ltN l2); (replace l3 := ltN l3); (replace l4 := ltN l4); (replace l5 := ltN l5); (try k_lt l1); (try k_sweep)) | (k_here; (with_reducible show wpAny _ _ (call (Value.type "map") _) _ _ _); k_dflt (refine mapN (by k_asm) (by k_asm) (by k_mem) ?_); intro li' tt' mp' h' F' N' l1 l2 l3) | (k_here; (with_reducible show wpAny _ _ (assign (Expr.Tuple _ _ _) _ (Value.ref _)) _ _ _); k_dflt (refine unpackM (by k_asm) (by k_asm) (by k_asm) (by k_mem) (by exact rfl) (by exact rfl) (by exact rfl) ?_); intro h' F' N'; (try k_sweep)) | walk1)) | ((change UnrEndW _ _ _ _ _ _); ktu_end)))
  rename Fr g L _ _ => F1a
  rename News g L _ _ => N1a
  refine n_push X T (fr_over (S := nI M _ (.int na _) (.int nb _) (.int 0 _) (.int 0 _) (.int (0 + c0) _) (.int a1 _) (.int b1 _) (.int c1 _)) F1a (by repeat (first | exact List.forall_mem_nil _ | refine List.forall_mem_cons.mpr ⟨rfl, ?_⟩))) N1a (by k_updF) (Nat.le_of_ble_eq_true rfl) (by omega) (by omega) ?_
  clear F1a N1a
  intro y1 wa1 wb1 wc1 nn1 h1x tk1x mm1 vv1 vw1 vz1 G1 M1 ney1
  try dsimp only at M1
  replace M1 := news_swap M1
  have nd1 : @Ne Nat y1 dM := ne_cls M1 (by k_mem) (by k_mem) (fun e => absurd (Value.type.inj e) (by decide))
  try dsimp only
  repeat' ((fail_if_success (with_reducible show wpAny _ _ (execs (Stmt.If (PySem.Expr.BoolOp _ _ _) _ _ _ :: _) _) _ _ _)); (first | ((with_reducible show wpAny _ _ (execs _ _) _ _ _); exfalso; omega) | ((first | (k_here; (with_reducible show wpAny _ _ (call (Value.type "list") _) _ _ _); k_dflt (refine list_map4 (by k_asm) (by k_asm) (by k_asm) (by exact rfl) (by (simp only [depth_deeper, depth_caller]; decide)) (by exact rfl) (by k_asm) (by k_asm) (by assumption) (by assumption) (by assumption) (by k_mem) (by k_mem) (by exact rfl) (by k_mem) (by k_mem) (by k_mem) (by k_mem) ?_); intro S' x0' d0' x1' d1' x2' d2' x3' d3' c' h' tk' F' N' l1 l2 l3 l4 l5; (replace l2 := ltN l2); (replace l3 := ltN l3); (replace l4 := ltN l4); (replace l5 := ltN l5); (try k_lt l1); (try k_sweep)) | (k_here; (with_reducible show wpAny _ _ (call (Value.type "map") _) _ _ _); k_dflt (refine mapN (by k_asm) (by k_asm) (by k_mem) ?_); intro li' tt' mp' h' F' N' l1 l2 l3) | (k_here; (with_reducible show wpAny _ _ (assign (Expr.Tuple _ _ _) _ (Value.ref _)) _ _ _); k_dflt (refine unpackM (by k_asm) (by k_asm) (by k_asm) (by k_mem) (by exact rfl) (by exact rfl) (by exact rfl) ?_); intro h' F' N'; (try k_sweep)) | walk1); all_goals (try dsimp only); all_goals (try ((with_reducible refine wp_tok ?_); intro tk))) | (dsimp only; (first | (k_here; (with_reducible show wpAny _ _ (call (Value.type "list") _) _ _ _); k_dflt (refine list_map4 (by k_asm) (by k_asm) (by k_asm) (by exact rfl) (by (simp only [depth_deeper, depth_caller]; decide)) (by exact rfl) (by k_asm) (by k_asm) (by assumption) (by assumption) (by assumption) (by k_mem) (by k_mem) (by exact rfl) (by k_mem) (by k_mem) (by k_mem) (by k_mem) ?_); intro S' x0' d0' x1' d1' x2' d2' x3' d3' c' h' tk' F' N' l1 l2 l3 l4 l5; (replace l2 := ltN l2); (replace l3 := ltN l3); (replace l4 := ltN l4); (replace l5 := ltN l5); (try k_lt l1); (try k_sweep)) | (k_here; (with_reducible show wpAny _ _ (call (Value.type "map") _) _ _ _); k_dflt (refine mapN (by k_asm) (by k_asm) (by k_mem) ?_); intro li' tt' mp' h' F' N' l1 l2 l3) | (k_here; (with_reducible show wpAny _ _ (assign (Expr.Tuple _ _ _) _ (Value.ref _)) _ _ _); k_dflt (refine unpackM (by k_asm) (by k_asm) (by k_asm) (by k_mem) (by exact rfl) (by exact rfl) (by exact rfl) ?_); intro h' F' N'; (try k_sweep)) | walk1)) | ((change UnrEndW _ _ _ _ _ _); ktu_end)))
  rename Fr g L _ _ => F2a
  rename News g L _ _ => N2a
  refine n_push X T (fr_over (S := nI M _ (.int na _) (.int nb _) (.int a1 _) (.int b1 _) (.int c1 _) (.int a2 _) (.int b2 _) (.int c2 _)) F2a (by repeat (first | exact List.forall_mem_nil _ | refine List.forall_mem_cons.mpr ⟨rfl, ?_⟩))) N2a (by k_updF) (Nat.le_of_ble_eq_true rfl) (by omega) (by omega) ?_
  clear F2a N2a
  intro y2 wa2 wb2 wc2 nn2 h2x tk2x mm2 vv2 vw2 vz2 G2 M2 ney2
  try dsimp only at M2
  replace M2 := news_swap M2
  have nd2 : @Ne Nat y2 dM := ne_cls M2 (by k_mem) (by k_mem) (fun e => absurd (Value.type.inj e) (by decide))
  try dsimp only
  repeat' ((fail_if_success (with_reducible show wpAny _ _ (execs (Stmt.If (PySem.Expr.BoolOp _ _ _) _ _ _ :: _) _) _ _ _)); (first | ((with_reducible show wpAny _ _ (execs _ _) _ _ _); exfalso; omega) | ((first | (k_here; (with_reducible show wpAny _ _ (call (Value.type "list") _) _ _ _); k_dflt (refine list_map4 (by k_asm) (by k_asm) (by k_asm) (by exact rfl) (by (simp only [depth_deeper, depth_caller]; decide)) (by exact rfl) (by k_asm) (by k_asm) (by assumption) (by assumption) (by assumption) (by k_mem) (by k_mem) (by exact rfl) (by k_mem) (by k_mem) (by k_mem) (by k_mem) ?_); intro S' x0' d0' x1' d1' x2' d2' x3' d3' c' h' tk' F' N' l1 l2 l3 l4 l5; (replace l2 := ltN l2); (replace l3 := ltN l3); (replace l4 := ltN l4); (replace l5 := ltN l5); (try k_lt l1); (try k_sweep)) | (k_here; (with_reducible show wpAny _ _ (call (Value.type "map") _) _ _ _); k_dflt (refine mapN (by k_asm) (by k_asm) (by k_mem) ?_); intro li' tt' mp' h' F' N' l1 l2 l3) | (k_here; (with_reducible show wpAny _ _ (assign (Expr.Tuple _ _ _) _ (Value.ref _)) _ _ _); k_dflt (refine unpackM (by k_asm) (by k_asm) (by k_asm) (by k_mem) (by exact rfl) (by exact rfl) (by exact rfl) ?_); intro h' F' N'; (try k_sweep)) | walk1); all_goals (try dsimp only); all_goals (try ((with_reducible refine wp_tok ?_); intro tk))) | (dsimp only; (first | (k_here; (with_reducible show wpAny _ _ (call (Value.type "list") _) _ _ _); k_dflt (refine list_map4 (by k_asm) (by k_asm) (by k_asm) (by exact rfl) (by (simp only [depth_deeper, depth_caller]; decide)) (by exact rfl) (by k_asm) (by k_asm) (by assumption) (by assumption) (by assumption) (by k_mem) (by k_mem) (by exact rfl) (by k_mem) (by k_mem) (by k_mem) (by k_mem) ?_); intro S' x0' d0' x1' d1' x2' d2' x3' d3' c' h' tk' F' N' l1 l2 l3 l4 l5; (replace l2 := ltN l2); (replace l3 := ltN l3); (replace l4 := ltN l4); (replace l5 := ltN l5); (try k_lt l1); (try k_sweep)) | (k_here; (with_reducible show wpAny _ _ (call (Value.type "map") _) _ _ _); k_dflt (refine mapN (by k_asm) (by k_asm) (by k_mem) ?_); intro li' tt' mp' h' F' N' l1 l2 l3) | (k_here; (with_reducible show wpAny _ _ (assign (Expr.Tuple _ _ _) _ (Value.ref _)) _ _ _); k_dflt (refine unpackM (by k_asm) (by k_asm) (by k_asm) (by k_mem) (by exact rfl) (by exact rfl) (by exact rfl) ?_); intro h' F' N'; (try k_sweep)) | walk1)) | ((change UnrEndW _ _ _ _ _ _); ktu_end)))
  rename Fr g L _ _ => F9
  rename News g L _ _ => N9
  exact k _ _ _ _ _ _ _ _ _ _ _ _ _ _ _ _ _ _ _ _ _ _ _ _ _ F9 (news_sub N9 (by repeat (first | exact List.forall_mem_nil _ | refine List.forall_mem_cons.mpr ⟨by (first | k_mem | (repeat (first | exact List.Mem.head _ | apply List.Mem.tail))), ?_⟩))) (by omega) (by omega) (by omega) (by omega) (by omega)
end Mine
end
theorem Mine.flush11 {M : PySem.Model} {A : PySem.Around} {env : PySem.Env} {E : PySem.Value → PySem.Shared → Prop} {Q : PySem.Flow → PySem.Shared → Prop} {s : PySem.Shared} (h : Q .next s) : PySem.wpAny M A (PySem.execs [] env) Q E s := by first | (walk1; exact h) | exact PySem.wpAny_execs_nil h
section
open PySem PySem.W PySem.Calls PyProof.Rows
set_option maxRecDepth 100000
namespace Mine
noncomputable def whileBody : Stmt → List Stmt
  | .While _ b _ _ => b
  | _ => []
noncomputable def QPre : List Stmt := B203.take 5
noncomputable def QTurn : List Stmt := whileBody (nth B203 5)
abbrev tup4 (a b c d : Value) : Obj := { cls := .type "tuple", data := .seq #[a, b, c, d] }
noncomputable abbrev qS (M qa ma : Addr) (la lb : Value) : List (Str × Value) := [(Str.ofString "self", .ref M), (Str.ofString "queue", .ref qa), (Str.ofString "matching_blocks", .ref ma), (Str.ofString "la", la), (Str.ofString "lb", lb)]
theorem pk_pre {g h : Heap} {L : Addr} {a0 a1 a2 a3 a4 a5 : Addr × Obj} (N : News g L h [a0, a1, a2, a3, a4, a5]) : News g L h [a0, a1, a2, a4, a5] := news_sub N fun p hp => by
  simp only [List.mem_cons, List.not_mem_nil, or_false] at hp ⊢
  rcases hp with h | h | h | h | h <;> simp [h]
local macro_rules | `(tactic| k_all) => `(tactic| assumption)
set_option maxHeartbeats 4000000 in
theorem gmb_pre {w : World} {e1 : Env} {s : Shared} {g base : Heap} {outer : List Env} {L M dM la lb D S1 : Addr} {mg mb : Str → Option Value} {mean : ExcName → Option Value} {t : Nat → Tok} {vop vbp : Value} {Q : Flow → Shared → Prop} {va vb : List Value} {as bs : List Int}
    (X : (K w.params).In g) (T : Top qv (looseW qv loose) mean mg mb g)
    (F : Fr g L s.heap (fun y => List.lookup y [(Str.ofString "self", Value.ref M)].reverse))
    (N : News g L s.heap [(M, instObj 242 dM), (dM, flmD w.params t la lb .none vop D S1 vbp)])
    (hla : g.IsList la va.toArray) (hva : IntsAre va as) (hlb : g.IsList lb vb.toArray) (hvb : IntsAre vb bs) (ral : (as.length : Int) < 100000) (rbl : (bs.length : Int) < 100000)
    (k : ∀ ma qa tq h' tk m' ta tb t0 t1 t2 t3, Fr g L h' (over (qS M qa ma (.int as.length ta) (.int bs.length tb)) m') → News g L h' [(ma, listOf #[] 0), (qa, listOf #[.ref tq] 0), (tq, tup4 (.int 0 t0) (.int as.length t1) (.int 0 t2) (.int bs.length t3)), (M, instObj 242 dM), (dM, flmD w.params t la lb .none vop D S1 vbp)] → @LT.lt Nat _ qa ma → @LT.lt Nat _ dM qa → Q .next { s with heap := h', toks := tk }) :
    wpAny (model pw w) ((callerA.deeper e1).deeper (envG L)) (execs QPre (envG L)) Q (fun _ _ => False) s := by
  conv in QPre => whnf
  show wpAny _ _ (execs _ _) _ _ _
  obtain ⟨hp, gn, dr, tk, os⟩ := s
  dsimp only at F N k
  repeat' (first | ((with_reducible show wpAny _ _ (execs _ _) _ _ _); exfalso; omega) | ((first | (k_here; (with_reducible show wpAny _ _ (assign (Expr.Tuple _ _ _) _ (Value.ref _)) _ _ _); k_dflt (refine unpackM (by k_asm) (by k_asm) (by k_asm) (by k_mem) (by exact rfl) (by exact rfl) (by exact rfl) ?_); intro h' F' N'; (try k_sweep)) | (k_here; (with_reducible show wpAny _ _ (call (Value.ref 196) _) _ _ _); k_dflt (refine flm_fm (by k_asm) (by k_asm) (by k_asm) (by k_asm) (by k_asm) (by k_asm) (by k_mem) (by k_mem) (by exact rfl) (by k_asm) ?_); intro x' dx' u4' u5' u6' h' tk' F' N' l1; (try k_lt l1); (try k_sweep)) | (k_here; (with_reducible show wpAny _ _ (call (Value.builtin "len") _) _ _ _); k_dflt (refine len_base (by k_asm) (by k_asm) (by k_asm) (by k_asm) ?_); intro t') | walk1); all_goals (try dsimp only); all_goals (try ((with_reducible refine wp_tok ?_); intro tk))) | (dsimp only; (first | (k_here; (with_reducible show wpAny _ _ (assign (Expr.Tuple _ _ _) _ (Value.ref _)) _ _ _); k_dflt (refine unpackM (by k_asm) (by k_asm) (by k_asm) (by k_mem) (by exact rfl) (by exact rfl) (by exact rfl) ?_); intro h' F' N'; (try k_sweep)) | (k_here; (with_reducible show wpAny _ _ (call (Value.ref 196) _) _ _ _); k_dflt (refine flm_fm (by k_asm) (by k_asm) (by k_asm) (by k_asm) (by k_asm) (by k_asm) (by k_mem) (by k_mem) (by exact rfl) (by k_asm) ?_); intro x' dx' u4' u5' u6' h' tk' F' N' l1; (try k_lt l1); (try k_sweep)) | (k_here; (with_reducible show wpAny _ _ (call (Value.builtin "len") _) _ _ _); k_dflt (refine len_base (by k_asm) (by k_asm) (by k_asm) (by k_asm) ?_); intro t') | walk1)))
  rename Fr g L _ _ => F9
  rename News g L _ _ => N9
  have N10 := pk_pre N9
  exact wpAny_pure (k _ _ _ _ _ _ _ _ _ _ _ _ (fr_over (S := qS M _ _ (.int as.length _) (.int bs.length _)) F9 (by repeat (first | exact List.forall_mem_nil _ | refine List.forall_mem_cons.mpr ⟨rfl, ?_⟩))) N10 (by omega) (by omega))
theorem pq_both {g h : Heap} {L : Addr} {a0 a1 a2 a3 a4 a5 a6 a7 : Addr × Obj} {rest : List (Addr × Obj)} (N : News g L h (a0 :: a1 :: a2 :: a3 :: a4 :: a5 :: a6 :: a7 :: rest)) : News g L h (a3 :: a4 :: a1 :: a0 :: a2 :: a6 :: a7 :: rest) := news_sub N fun p hp => by
  simp only [List.mem_cons] at hp ⊢
  rcases hp with h | h | h | h | h | h | h | h <;> simp [h]
set_option maxHeartbeats 4000000 in
theorem q_both {w : World} {e1 : Env} {s : Shared} {g base : Heap} {outer : List Env} {L M dM la lb D S1 : Addr} {mg mb m : Str → Option Value} {mean : ExcName → Option Value} {t : Nat → Tok} {vop vbp : Value} {Q : Flow → Shared → Prop} {va vb : List Value} {as bs : List Int} {qa ma tq : Addr} {marr : Array Value} {kq km : Nat} {rest : List (Addr × Obj)} {a h b e i j k : Int} {vla vlb : Value} {y0 y1 y2 y3 : Tok}
    (X : (K w.params).In g) (T : Top qv (looseW qv loose) mean mg mb g) (B : Below (callerA.deeper e1) base outer g)
    (F : Fr g L s.heap (over (qS M qa ma vla vlb) m))
    (N : News g L s.heap ((ma, listOf marr km) :: (qa, listOf #[.ref tq] kq) :: (tq, tup4 (.int a y0) (.int h y1) (.int b y2) (.int e y3)) :: (M, instObj 242 dM) :: (dM, flmD w.params t la lb .none vop D S1 vbp) :: rest))
    (hma : ∀ p ∈ rest, p.1 ≠ ma) (hqa : ∀ p ∈ rest, p.1 ≠ qa) (o1 : @LT.lt Nat _ dM M) (oq : @LT.lt Nat _ qa ma) (hsz : marr.size ≤ 100)
    (R : Ready w g M dM t la lb .none vop D S1 vbp as bs) (fm : FM as bs a h b e i j k) (q0 : 0 < k) (q1 : a < i) (q2 : b < j) (q3 : i + k < h) (q4 : j + k < e)
    (kk : ∀ tl v0 v1 v2 v3 tr w0 w1 w2 w3 x dx p0 p1 p2 kq' km' h' tk m', Fr g L h' (over (qS M qa ma vla vlb) m') → News g L h' ((ma, listOf (marr.push (.ref x)) km') :: (qa, listOf #[.ref tl, .ref tr] kq') :: (tl, tup4 (.int a v0) (.int i v1) (.int b v2) (.int j v3)) :: (tr, tup4 (.int (i + k) w0) (.int h w1) (.int (j + k) w2) (.int e w3)) :: (x, mObj dx (.int i p0) (.int j p1) (.int k p2)) :: (M, instObj 242 dM) :: (dM, flmD w.params t la lb .none vop D S1 vbp) :: rest) → @LT.lt Nat _ dM x → Q .next { s with heap := h', toks := tk }) :
    wpAny (model pw w) ((callerA.deeper e1).deeper (envG L)) (execs QTurn (envG L)) Q (fun _ _ => False) s := by
  have n1 : @Ne Nat tq ma := ne_cls N (.tail _ (.tail _ (.head _))) (.head _) (fun e => absurd (Value.type.inj e) (by decide))
  have n2 : @Ne Nat tq qa := ne_cls N (.tail _ (.tail _ (.head _))) (.tail _ (.head _)) (fun e => absurd (Value.type.inj e) (by decide))
  have n3 : @Ne Nat M ma := ne_cls N (.tail _ (.tail _ (.tail _ (.head _)))) (.head _) (fun e => by cases e)
  have n4 : @Ne Nat M qa := ne_cls N (.tail _ (.tail _ (.tail _ (.head _)))) (.tail _ (.head _)) (fun e => by cases e)
  have n5 : @Ne Nat dM ma := ne_cls N (.tail _ (.tail _ (.tail _ (.tail _ (.head _))))) (.head _) (fun e => absurd (Value.type.inj e) (by decide))
  have n6 : @Ne Nat dM qa := ne_cls N (.tail _ (.tail _ (.tail _ (.tail _ (.head _))))) (.tail _ (.head _)) (fun e => absurd (Value.type.inj e) (by decide))
  conv in QTurn => whnf
  show wpAny _ _ (execs _ _) _ _ _
  obtain ⟨hp, gn, dr, tk, os⟩ := s
  dsimp only at F N kk
  repeat' (first | ((with_reducible show wpAny _ _ (execs _ _) _ _ _); exfalso; omega) | ((first | (k_here; (with_reducible show wpAny _ _ (assign (Expr.Tuple _ _ _) _ (Value.ref _)) _ _ _); k_dflt (refine unpackM (by k_asm) (by k_asm) (by k_asm) (by k_mem) (by exact rfl) (by exact rfl) (by exact rfl) ?_); intro h' F' N'; (try k_sweep)) | (k_here; (with_reducible show wpAny _ _ (call (Value.ref 196) _) _ _ _); k_dflt (refine flm_fm (by k_asm) (by k_asm) (by k_asm) (by k_asm) (by k_asm) (by k_asm) (by k_mem) (by k_mem) (by exact rfl) (by k_asm) ?_); intro x' dx' u4' u5' u6' h' tk' F' N' l1; (try k_lt l1); (try k_sweep)) | (k_here; (with_reducible show wpAny _ _ (call (Value.builtin "len") _) _ _ _); k_dflt (refine len_base (by k_asm) (by k_asm) (by k_asm) (by k_asm) ?_); intro t') | walk1); all_goals (try dsimp only); all_goals (try ((with_reducible refine wp_tok ?_); intro tk))) | (dsimp only; (first | (k_here; (with_reducible show wpAny _ _ (assign (Expr.Tuple _ _ _) _ (Value.ref _)) _ _ _); k_dflt (refine unpackM (by k_asm) (by k_asm) (by k_asm) (by k_mem) (by exact rfl) (by exact rfl) (by exact rfl) ?_); intro h' F' N'; (try k_sweep)) | (k_here; (with_reducible show wpAny _ _ (call (Value.ref 196) _) _ _ _); k_dflt (refine flm_fm (by k_asm) (by k_asm) (by k_asm) (by k_asm) (by k_asm) (by k_asm) (by k_mem) (by k_mem) (by exact rfl) (by k_asm) ?_); intro x' dx' u4' u5' u6' h' tk' F' N' l1; (try k_lt l1); (try k_sweep)) | (k_here; (with_reducible show wpAny _ _ (call (Value.builtin "len") _) _ _ _); k_dflt (refine len_base (by k_asm) (by k_asm) (by k_asm) (by k_asm) ?_); intro t') | walk1)))
  all_goals (
    rename Fr g L _ _ => F9
    rename News g L _ _ => N9
    exact kk _ _ _ _ _ _ _ _ _ _ _ _ _ _ _ _ _ _ _ _ (fr_over (S := qS M qa ma vla vlb) F9 (by repeat (first | exact List.forall_mem_nil _ | refine List.forall_mem_cons.mpr ⟨rfl, ?_⟩))) (pq_both N9) (by omega))
theorem pq_left {g h : Heap} {L : Addr} {a0 a1 a2 a3 a4 a5 a6 : Addr × Obj} {rest : List (Addr × Obj)} (N : News g L h (a0 :: a1 :: a2 :: a3 :: a4 :: a5 :: a6 :: rest)) : News g L h (a2 :: a3 :: a0 :: a1 :: a5 :: a6 :: rest) := news_sub N fun p hp => by
  simp only [List.mem_cons] at hp ⊢
  rcases hp with h | h | h | h | h | h | h <;> simp [h]
set_option maxHeartbeats 4000000 in
theorem q_left {w : World} {e1 : Env} {s : Shared} {g base : Heap} {outer : List Env} {L M dM la lb D S1 : Addr} {mg mb m : Str → Option Value} {mean : ExcName → Option Value} {t : Nat → Tok} {vop vbp : Value} {Q : Flow → Shared → Prop} {va vb : List Value} {as bs : List Int} {qa ma tq : Addr} {marr : Array Value} {kq km : Nat} {rest : List (Addr × Obj)} {a h b e i j k : Int} {vla vlb : Value} {y0 y1 y2 y3 : Tok}
    (X : (K w.params).In g) (T : Top qv (looseW qv loose) mean mg mb g) (B : Below (callerA.deeper e1) base outer g)
    (F : Fr g L s.heap (over (qS M qa ma vla vlb) m))
    (N : News g L s.heap ((ma, listOf marr km) :: (qa, listOf #[.ref tq] kq) :: (tq, tup4 (.int a y0) (.int h y1) (.int b y2) (.int e y3)) :: (M, instObj 242 dM) :: (dM, flmD w.params t la lb .none vop D S1 vbp) :: rest))
    (hma : ∀ p ∈ rest, p.1 ≠ ma) (hqa : ∀ p ∈ rest, p.1 ≠ qa) (o1 : @LT.lt Nat _ dM M) (oq : @LT.lt Nat _ qa ma) (hsz : marr.size ≤ 100)
    (R : Ready w g M dM t la lb .none vop D S1 vbp as bs) (fm : FM as bs a h b e i j k) (q0 : 0 < k) (q1 : a < i) (q2 : b < j) (q3 : ¬ (i + k < h ∧ j + k < e))
    (kk : ∀ tl v0 v1 v2 v3 x dx p0 p1 p2 kq' km' h' tk m', Fr g L h' (over (qS M qa ma vla vlb) m') → News g L h' ((ma, listOf (marr.push (.ref x)) km') :: (qa, listOf #[.ref tl] kq') :: (tl, tup4 (.int a v0) (.int i v1) (.int b v2) (.int j v3)) :: (x, mObj dx (.int i p0) (.int j p1) (.int k p2)) :: (M, instObj 242 dM) :: (dM, flmD w.params t la lb .none vop D S1 vbp) :: rest) → @LT.lt Nat _ dM x → Q .next { s with heap := h', toks := tk }) :
    wpAny (model pw w) ((callerA.deeper e1).deeper (envG L)) (execs QTurn (envG L)) Q (fun _ _ => False) s := by
  have n1 : @Ne Nat tq ma := ne_cls N (.tail _ (.tail _ (.head _))) (.head _) (fun e => absurd (Value.type.inj e) (by decide))
  have n2 : @Ne Nat tq qa := ne_cls N (.tail _ (.tail _ (.head _))) (.tail _ (.head _)) (fun e => absurd (Value.type.inj e) (by decide))
  have n3 : @Ne Nat M ma := ne_cls N (.tail _ (.tail _ (.tail _ (.head _)))) (.head _) (fun e => by cases e)
  have n4 : @Ne Nat M qa := ne_cls N (.tail _ (.tail _ (.tail _ (.head _)))) (.tail _ (.head _)) (fun e => by cases e)
  have n5 : @Ne Nat dM ma := ne_cls N (.tail _ (.tail _ (.tail _ (.tail _ (.head _))))) (.head _) (fun e => absurd (Value.type.inj e) (by decide))
  have n6 : @Ne Nat dM qa := ne_cls N (.tail _ (.tail _ (.tail _ (.tail _ (.head _))))) (.tail _ (.head _)) (fun e => absurd (Value.type.inj e) (by decide))
  conv in QTurn => whnf
  show wpAny _ _ (execs _ _) _ _ _
  obtain ⟨hp, gn, dr, tk, os⟩ := s
  dsimp only at F N kk
  repeat' (first | ((with_reducible show wpAny _ _ (execs _ _) _ _ _); exfalso; omega) | ((first | (k_here; (with_reducible show wpAny _ _ (assign (Expr.Tuple _ _ _) _ (Value.ref _)) _ _ _); k_dflt (refine unpackM (by k_asm) (by k_asm) (by k_asm) (by k_mem) (by exact rfl) (by exact rfl) (by exact rfl) ?_); intro h' F' N'; (try k_sweep)) | (k_here; (with_reducible show wpAny _ _ (call (Value.ref 196) _) _ _ _); k_dflt (refine flm_fm (by k_asm) (by k_asm) (by k_asm) (by k_asm) (by k_asm) (by k_asm) (by k_mem) (by k_mem) (by exact rfl) (by k_asm) ?_); intro x' dx' u4' u5' u6' h' tk' F' N' l1; (try k_lt l1); (try k_sweep)) | (k_here; (with_reducible show wpAny _ _ (call (Value.builtin "len") _) _ _ _); k_dflt (refine len_base (by k_asm) (by k_asm) (by k_asm) (by k_asm) ?_); intro t') | walk1); all_goals (try dsimp only); all_goals (try ((with_reducible refine wp_tok ?_); intro tk))) | (dsimp only; (first | (k_here; (with_reducible show wpAny _ _ (assign (Expr.Tuple _ _ _) _ (Value.ref _)) _ _ _); k_dflt (refine unpackM (by k_asm) (by k_asm) (by k_asm) (by k_mem) (by exact rfl) (by exact rfl) (by exact rfl) ?_); intro h' F' N'; (try k_sweep)) | (k_here; (with_reducible show wpAny _ _ (call (Value.ref 196) _) _ _ _); k_dflt (refine flm_fm (by k_asm) (by k_asm) (by k_asm) (by k_asm) (by k_asm) (by k_asm) (by k_mem) (by k_mem) (by exact rfl) (by k_asm) ?_); intro x' dx' u4' u5' u6' h' tk' F' N' l1; (try k_lt l1); (try k_sweep)) | (k_here; (with_reducible show wpAny _ _ (call (Value.builtin "len") _) _ _ _); k_dflt (refine len_base (by k_asm) (by k_asm) (by k_asm) (by k_asm) ?_); intro t') | walk1)))
  all_goals (
    rename Fr g L _ _ => F9
    rename News g L _ _ => N9
    exact kk _ _ _ _ _ _ _ _ _ _ _ _ _ _ _ (fr_over (S := qS M qa ma vla vlb) F9 (by repeat (first | exact List.forall_mem_nil _ | refine List.forall_mem_cons.mpr ⟨rfl, ?_⟩))) (pq_left N9) (by omega))
theorem pq_right {g h : Heap} {L : Addr} {a0 a1 a2 a3 a4 a5 a6 : Addr × Obj} {rest : List (Addr × Obj)} (N : News g L h (a0 :: a1 :: a2 :: a3 :: a4 :: a5 :: a6 :: rest)) : News g L h (a2 :: a3 :: a0 :: a1 :: a5 :: a6 :: rest) := news_sub N fun p hp => by
  simp only [List.mem_cons] at hp ⊢
  rcases hp with h | h | h | h | h | h | h <;> simp [h]
set_option maxHeartbeats 4000000 in
theorem q_right {w : World} {e1 : Env} {s : Shared} {g base : Heap} {outer : List Env} {L M dM la lb D S1 : Addr} {mg mb m : Str → Option Value} {mean : ExcName → Option Value} {t : Nat → Tok} {vop vbp : Value} {Q : Flow → Shared → Prop} {va vb : List Value} {as bs : List Int} {qa ma tq : Addr} {marr : Array Value} {kq km : Nat} {rest : List (Addr × Obj)} {a h b e i j k : Int} {vla vlb : Value} {y0 y1 y2 y3 : Tok}
    (X : (K w.params).In g) (T : Top qv (looseW qv loose) mean mg mb g) (B : Below (callerA.deeper e1) base outer g)
    (F : Fr g L s.heap (over (qS M qa ma vla vlb) m))
    (N : News g L s.heap ((ma, listOf marr km) :: (qa, listOf #[.ref tq] kq) :: (tq, tup4 (.int a y0) (.int h y1) (.int b y2) (.int e y3)) :: (M, instObj 242 dM) :: (dM, flmD w.params t la lb .none vop D S1 vbp) :: rest))
    (hma : ∀ p ∈ rest, p.1 ≠ ma) (hqa : ∀ p ∈ rest, p.1 ≠ qa) (o1 : @LT.lt Nat _ dM M) (oq : @LT.lt Nat _ qa ma) (hsz : marr.size ≤ 100)
    (R : Ready w g M dM t la lb .none vop D S1 vbp as bs) (fm : FM as bs a h b e i j k) (q0 : 0 < k) (q1 : a = i) (q2 : i + k < h) (q3 : j + k < e)
    (kk : ∀ tr w0 w1 w2 w3 x dx p0 p1 p2 kq' km' h' tk m', Fr g L h' (over (qS M qa ma vla vlb) m') → News g L h' ((ma, listOf (marr.push (.ref x)) km') :: (qa, listOf #[.ref tr] kq') :: (tr, tup4 (.int (i + k) w0) (.int h w1) (.int (j + k) w2) (.int e w3)) :: (x, mObj dx (.int i p0) (.int j p1) (.int k p2)) :: (M, instObj 242 dM) :: (dM, flmD w.params t la lb .none vop D S1 vbp) :: rest) → @LT.lt Nat _ dM x → Q .next { s with heap := h', toks := tk }) :
    wpAny (model pw w) ((callerA.deeper e1).deeper (envG L)) (execs QTurn (envG L)) Q (fun _ _ => False) s := by
  have n1 : @Ne Nat tq ma := ne_cls N (.tail _ (.tail _ (.head _))) (.head _) (fun e => absurd (Value.type.inj e) (by decide))
  have n2 : @Ne Nat tq qa := ne_cls N (.tail _ (.tail _ (.head _))) (.tail _ (.head _)) (fun e => absurd (Value.type.inj e) (by decide))
  have n3 : @Ne Nat M ma := ne_cls N (.tail _ (.tail _ (.tail _ (.head _)))) (.head _) (fun e => by cases e)
  have n4 : @Ne Nat M qa := ne_cls N (.tail _ (.tail _ (.tail _ (.head _)))) (.tail _ (.head _)) (fun e => by cases e)
  have n5 : @Ne Nat dM ma := ne_cls N (.tail _ (.tail _ (.tail _ (.tail _ (.head _))))) (.head _) (fun e => absurd (Value.type.inj e) (by decide))
  have n6 : @Ne Nat dM qa := ne_cls N (.tail _ (.tail _ (.tail _ (.tail _ (.head _))))) (.tail _ (.head _)) (fun e => absurd (Value.type.inj e) (by decide))
  conv in QTurn => whnf
  show wpAny _ _ (execs _ _) _ _ _
  obtain ⟨hp, gn, dr, tk, os⟩ := s
  dsimp only at F N kk
  repeat' (first | ((with_reducible show wpAny _ _ (execs _ _) _ _ _); exfalso; omega) | ((first | (k_here; (with_reducible show wpAny _ _ (assign (Expr.Tuple _ _ _) _ (Value.ref _)) _ _ _); k_dflt (refine unpackM (by k_asm) (by k_asm) (by k_asm) (by k_mem) (by exact rfl) (by exact rfl) (by exact rfl) ?_); intro h' F' N'; (try k_sweep)) | (k_here; (with_reducible show wpAny _ _ (call (Value.ref 196) _) _ _ _); k_dflt (refine flm_fm (by k_asm) (by k_asm) (by k_asm) (by k_asm) (by k_asm) (by k_asm) (by k_mem) (by k_mem) (by exact rfl) (by k_asm) ?_); intro x' dx' u4' u5' u6' h' tk' F' N' l1; (try k_lt l1); (try k_sweep)) | (k_here; (with_reducible show wpAny _ _ (call (Value.builtin "len") _) _ _ _); k_dflt (refine len_base (by k_asm) (by k_asm) (by k_asm) (by k_asm) ?_); intro t') | walk1); all_goals (try dsimp only); all_goals (try ((with_reducible refine wp_tok ?_); intro tk))) | (dsimp only; (first | (k_here; (with_reducible show wpAny _ _ (assign (Expr.Tuple _ _ _) _ (Value.ref _)) _ _ _); k_dflt (refine unpackM (by k_asm) (by k_asm) (by k_asm) (by k_mem) (by exact rfl) (by exact rfl) (by exact rfl) ?_); intro h' F' N'; (try k_sweep)) | (k_here; (with_reducible show wpAny _ _ (call (Value.ref 196) _) _ _ _); k_dflt (refine flm_fm (by k_asm) (by k_asm) (by k_asm) (by k_asm) (by k_asm) (by k_asm) (by k_mem) (by k_mem) (by exact rfl) (by k_asm) ?_); intro x' dx' u4' u5' u6' h' tk' F' N' l1; (try k_lt l1); (try k_sweep)) | (k_here; (with_reducible show wpAny _ _ (call (Value.builtin "len") _) _ _ _); k_dflt (refine len_base (by k_asm) (by k_asm) (by k_asm) (by k_asm) ?_); intro t') | walk1)))
  all_goals (
    rename Fr g L _ _ => F9
    rename News g L _ _ => N9
    exact kk _ _ _ _ _ _ _ _ _ _ _ _ _ _ _ (fr_over (S := qS M qa ma vla vlb) F9 (by repeat (first | exact List.forall_mem_nil _ | refine List.forall_mem_cons.mpr ⟨rfl, ?_⟩))) (pq_right N9) (by omega))
theorem pq_none {g h : Heap} {L : Addr} {a0 a1 a2 a3 a4 a5 : Addr × Obj} {rest : List (Addr × Obj)} (N : News g L h (a0 :: a1 :: a2 :: a3 :: a4 :: a5 :: rest)) : News g L h (a1 :: a2 :: a0 :: a4 :: a5 :: rest) := news_sub N fun p hp => by
  simp only [List.mem_cons] at hp ⊢
  rcases hp with h | h | h | h | h | h <;> simp [h]
set_option maxHeartbeats 4000000 in
theorem q_none {w : World} {e1 : Env} {s : Shared} {g base : Heap} {outer : List Env} {L M dM la lb D S1 : Addr} {mg mb m : Str → Option Value} {mean : ExcName → Option Value} {t : Nat → Tok} {vop vbp : Value} {Q : Flow → Shared → Prop} {va vb : List Value} {as bs : List Int} {qa ma tq t0 : Addr} {marr : Array Value} {kq km : Nat} {rest : List (Addr × Obj)} {a h b e i j k : Int} {vla vlb : Value} {y0 y1 y2 y3 : Tok}
    (X : (K w.params).In g) (T : Top qv (looseW qv loose) mean mg mb g) (B : Below (callerA.deeper e1) base outer g)
    (F : Fr g L s.heap (over (qS M qa ma vla vlb) m))
    (N : News g L s.heap ((ma, listOf marr km) :: (qa, listOf #[.ref t0, .ref tq] kq) :: (tq, tup4 (.int a y0) (.int h y1) (.int b y2) (.int e y3)) :: (M, instObj 242 dM) :: (dM, flmD w.params t la lb .none vop D S1 vbp) :: rest))
    (hma : ∀ p ∈ rest, p.1 ≠ ma) (hqa : ∀ p ∈ rest, p.1 ≠ qa) (o1 : @LT.lt Nat _ dM M) (oq : @LT.lt Nat _ qa ma) (hsz : marr.size ≤ 100)
    (R : Ready w g M dM t la lb .none vop D S1 vbp as bs) (fm : FM as bs a h b e i j k) (q0 : 0 < k) (q1 : a = i) (q2 : i + k < h) (q3 : ¬ j + k < e)
    (kk : ∀ x dx p0 p1 p2 kq' km' h' tk m', Fr g L h' (over (qS M qa ma vla vlb) m') → News g L h' ((ma, listOf (marr.push (.ref x)) km') :: (qa, listOf #[.ref t0] kq') :: (x, mObj dx (.int i p0) (.int j p1) (.int k p2)) :: (M, instObj 242 dM) :: (dM, flmD w.params t la lb .none vop D S1 vbp) :: rest) → @LT.lt Nat _ dM x → Q .next { s with heap := h', toks := tk }) :
    wpAny (model pw w) ((callerA.deeper e1).deeper (envG L)) (execs QTurn (envG L)) Q (fun _ _ => False) s := by
  have n1 : @Ne Nat tq ma := ne_cls N (.tail _ (.tail _ (.head _))) (.head _) (fun e => absurd (Value.type.inj e) (by decide))
  have n2 : @Ne Nat tq qa := ne_cls N (.tail _ (.tail _ (.head _))) (.tail _ (.head _)) (fun e => absurd (Value.type.inj e) (by decide))
  have n3 : @Ne Nat M ma := ne_cls N (.tail _ (.tail _ (.tail _ (.head _)))) (.head _) (fun e => by cases e)
  have n4 : @Ne Nat M qa := ne_cls N (.tail _ (.tail _ (.tail _ (.head _)))) (.tail _ (.head _)) (fun e => by cases e)
  have n5 : @Ne Nat dM ma := ne_cls N (.tail _ (.tail _ (.tail _ (.tail _ (.head _))))) (.head _) (fun e => absurd (Value.type.inj e) (by decide))
  have n6 : @Ne Nat dM qa := ne_cls N (.tail _ (.tail _ (.tail _ (.tail _ (.head _))))) (.tail _ (.head _)) (fun e => absurd (Value.type.inj e) (by decide))
  conv in QTurn => whnf
  show wpAny _ _ (execs _ _) _ _ _
  obtain ⟨hp, gn, dr, tk, os⟩ := s
  dsimp only at F N kk
  repeat' (first | ((with_reducible show wpAny _ _ (execs _ _) _ _ _); exfalso; omega) | ((first | (k_here; (with_reducible show wpAny _ _ (assign (Expr.Tuple _ _ _) _ (Value.ref _)) _ _ _); k_dflt (refine unpackM (by k_asm) (by k_asm) (by k_asm) (by k_mem) (by exact rfl) (by exact rfl) (by exact rfl) ?_); intro h' F' N'; (try k_sweep)) | (k_here; (with_reducible show wpAny _ _ (call (Value.ref 196) _) _ _ _); k_dflt (refine flm_fm (by k_asm) (by k_asm) (by k_asm) (by k_asm) (by k_asm) (by k_asm) (by k_mem) (by k_mem) (by exact rfl) (by k_asm) ?_); intro x' dx' u4' u5' u6' h' tk' F' N' l1; (try k_lt l1); (try k_sweep)) | (k_here; (with_reducible show wpAny _ _ (call (Value.builtin "len") _) _ _ _); k_dflt (refine len_base (by k_asm) (by k_asm) (by k_asm) (by k_asm) ?_); intro t') | walk1); all_goals (try dsimp only); all_goals (try ((with_reducible refine wp_tok ?_); intro tk))) | (dsimp only; (first | (k_here; (with_reducible show wpAny _ _ (assign (Expr.Tuple _ _ _) _ (Value.ref _)) _ _ _); k_dflt (refine unpackM (by k_asm) (by k_asm) (by k_asm) (by k_mem) (by exact rfl) (by exact rfl) (by exact rfl) ?_); intro h' F' N'; (try k_sweep)) | (k_here; (with_reducible show wpAny _ _ (call (Value.ref 196) _) _ _ _); k_dflt (refine flm_fm (by k_asm) (by k_asm) (by k_asm) (by k_asm) (by k_asm) (by k_asm) (by k_mem) (by k_mem) (by exact rfl) (by k_asm) ?_); intro x' dx' u4' u5' u6' h' tk' F' N' l1; (try k_lt l1); (try k_sweep)) | (k_here; (with_reducible show wpAny _ _ (call (Value.builtin "len") _) _ _ _); k_dflt (refine len_base (by k_asm) (by k_asm) (by k_asm) (by k_asm) ?_); intro t') | walk1)))
  all_goals (
    rename Fr g L _ _ => F9
    rename News g L _ _ => N9
    exact kk _ _ _ _ _ _ _ _ _ _ (fr_over (S := qS M qa ma vla vlb) F9 (by repeat (first | exact List.forall_mem_nil _ | refine List.forall_mem_cons.mpr ⟨rfl, ?_⟩))) (pq_none N9) (by omega))
theorem pq_zero {g h : Heap} {L : Addr} {a0 a1 a2 a3 a4 a5 : Addr × Obj} {rest : List (Addr × Obj)} (N : News g L h (a0 :: a1 :: a2 :: a3 :: a4 :: a5 :: rest)) : News g L h (a1 :: a2 :: a4 :: a5 :: rest) := news_sub N fun p hp => by
  simp only [List.mem_cons] at hp ⊢
  rcases hp with h | h | h | h | h <;> simp [h]
set_option maxHeartbeats 4000000 in
theorem q_zero {w : World} {e1 : Env} {s : Shared} {g base : Heap} {outer : List Env} {L M dM la lb D S1 : Addr} {mg mb m : Str → Option Value} {mean : ExcName → Option Value} {t : Nat → Tok} {vop vbp : Value} {Q : Flow → Shared → Prop} {va vb : List Value} {as bs : List Int} {qa ma tq : Addr} {marr : Array Value} {kq km : Nat} {rest : List (Addr × Obj)} {a h b e i j k : Int} {vla vlb : Value} {y0 y1 y2 y3 : Tok}
    (X : (K w.params).In g) (T : Top qv (looseW qv loose) mean mg mb g) (B : Below (callerA.deeper e1) base outer g)
    (F : Fr g L s.heap (over (qS M qa ma vla vlb) m))
    (N : News g L s.heap ((ma, listOf marr km) :: (qa, listOf #[.ref tq] kq) :: (tq, tup4 (.int a y0) (.int h y1) (.int b y2) (.int e y3)) :: (M, instObj 242 dM) :: (dM, flmD w.params t la lb .none vop D S1 vbp) :: rest))
    (hma : ∀ p ∈ rest, p.1 ≠ ma) (hqa : ∀ p ∈ rest, p.1 ≠ qa) (o1 : @LT.lt Nat _ dM M) (oq : @LT.lt Nat _ qa ma) (hsz : marr.size ≤ 100)
    (R : Ready w g M dM t la lb .none vop D S1 vbp as bs) (fm : FM as bs a h b e i j k) (q0 : k = 0)
    (kk : ∀ kq' km' h' tk m', Fr g L h' (over (qS M qa ma vla vlb) m') → News g L h' ((ma, listOf marr km') :: (qa, listOf #[] kq') :: (M, instObj 242 dM) :: (dM, flmD w.params t la lb .none vop D S1 vbp) :: rest) → Q .next { s with heap := h', toks := tk }) :
    wpAny (model pw w) ((callerA.deeper e1).deeper (envG L)) (execs QTurn (envG L)) Q (fun _ _ => False) s := by
  have n1 : @Ne Nat tq ma := ne_cls N (.tail _ (.tail _ (.head _))) (.head _) (fun e => absurd (Value.type.inj e) (by decide))
  have n2 : @Ne Nat tq qa := ne_cls N (.tail _ (.tail _ (.head _))) (.tail _ (.head _)) (fun e => absurd (Value.type.inj e) (by decide))
  have n3 : @Ne Nat M ma := ne_cls N (.tail _ (.tail _ (.tail _ (.head _)))) (.head _) (fun e => by cases e)
  have n4 : @Ne Nat M qa := ne_cls N (.tail _ (.tail _ (.tail _ (.head _)))) (.tail _ (.head _)) (fun e => by cases e)
  have n5 : @Ne Nat dM ma := ne_cls N (.tail _ (.tail _ (.tail _ (.tail _ (.head _))))) (.head _) (fun e => absurd (Value.type.inj e) (by decide))
  have n6 : @Ne Nat dM qa := ne_cls N (.tail _ (.tail _ (.tail _ (.tail _ (.head _))))) (.tail _ (.head _)) (fun e => absurd (Value.type.inj e) (by decide))
  conv in QTurn => whnf
  show wpAny _ _ (execs _ _) _ _ _
  obtain ⟨hp, gn, dr, tk, os⟩ := s
  dsimp only at F N kk
  repeat' (first | ((with_reducible show wpAny _ _ (execs _ _) _ _ _); exfalso; omega) | ((first | (k_here; (with_reducible show wpAny _ _ (assign (Expr.Tuple _ _ _) _ (Value.ref _)) _ _ _); k_dflt (refine unpackM (by k_asm) (by k_asm) (by k_asm) (by k_mem) (by exact rfl) (by exact rfl) (by exact rfl) ?_); intro h' F' N'; (try k_sweep)) | (k_here; (with_reducible show wpAny _ _ (call (Value.ref 196) _) _ _ _); k_dflt (refine flm_fm (by k_asm) (by k_asm) (by k_asm) (by k_asm) (by k_asm) (by k_asm) (by k_mem) (by k_mem) (by exact rfl) (by k_asm) ?_); intro x' dx' u4' u5' u6' h' tk' F' N' l1; (try k_lt l1); (try k_sweep)) | (k_here; (with_reducible show wpAny _ _ (call (Value.builtin "len") _) _ _ _); k_dflt (refine len_base (by k_asm) (by k_asm) (by k_asm) (by k_asm) ?_); intro t') | walk1); all_goals (try dsimp only); all_goals (try ((with_reducible refine wp_tok ?_); intro tk))) | (dsimp only; (first | (k_here; (with_reducible show wpAny _ _ (assign (Expr.Tuple _ _ _) _ (Value.ref _)) _ _ _); k_dflt (refine unpackM (by k_asm) (by k_asm) (by k_asm) (by k_mem) (by exact rfl) (by exact rfl) (by exact rfl) ?_); intro h' F' N'; (try k_sweep)) | (k_here; (with_reducible show wpAny _ _ (call (Value.ref 196) _) _ _ _); k_dflt (refine flm_fm (by k_asm) (by k_asm) (by k_asm) (by k_asm) (by k_asm) (by k_asm) (by k_mem) (by k_mem) (by exact rfl) (by k_asm) ?_); intro x' dx' u4' u5' u6' h' tk' F' N' l1; (try k_lt l1); (try k_sweep)) | (k_here; (with_reducible show wpAny _ _ (call (Value.builtin "len") _) _ _ _); k_dflt (refine len_base (by k_asm) (by k_asm) (by k_asm) (by k_asm) ?_); intro t') | walk1)))
  all_goals (
    rename Fr g L _ _ => F9
    rename News g L _ _ => N9
    exact kk _ _ _ _ _ (fr_over (S := qS M qa ma vla vlb) F9 (by repeat (first | exact List.forall_mem_nil _ | refine List.forall_mem_cons.mpr ⟨rfl, ?_⟩))) (pq_zero N9))
end Mine
end
theorem Mine.flush12 {M : PySem.Model} {A : PySem.Around} {env : PySem.Env} {E : PySem.Value → PySem.Shared → Prop} {Q : PySem.Flow → PySem.Shared → Prop} {s : PySem.Shared} (h : Q .next s) : PySem.wpAny M A (PySem.execs [] env) Q E s := by first | (walk1; exact h) | exact PySem.wpAny_execs_nil h
section
open PySem PySem.W PySem.Calls PyProof.Rows
set_option maxRecDepth 100000
namespace Mine
local macro_rules | `(tactic| k_all) => `(tactic| assumption)
set_option maxHeartbeats 4000000 in
theorem gmbA {w : World} {e1 : Env} {s : Shared} {g base : Heap} {outer : List Env} {L M dM la lb D S1 : Addr} {mg mb : Str → Option Value} {mean : ExcName → Option Value} {t : Nat → Tok} {vop vbp : Value} {Q : Flow → Shared → Prop} {va vb : List Value} {as bs : List Int}
    (X : (K w.params).In g) (T : Top qv (looseW qv loose) mean mg mb g) (B : Below (callerA.deeper e1) base outer g)
    (F : Fr g L s.heap (fun y => List.lookup y [(Str.ofString "self", Value.ref M)].reverse))
    (N : News g L s.heap [(M, instObj 242 dM), (dM, flmD w.params t la lb .none vop D S1 vbp)]) (o1 : @LT.lt Nat _ dM M)
    (hla : g.IsList la va.toArray) (hva : IntsAre va as) (hlb : g.IsList lb vb.toArray) (hvb : IntsAre vb bs) (ral : (as.length : Int) < 100000) (rbl : (bs.length : Int) < 100000)
    (R : Ready w g M dM t la lb .none vop D S1 vbp as bs)
    {i0 j0 k0 i1 j1 k1 i2 j2 k2 i3 j3 : Int} (m0 : FM as bs 0 as.length 0 bs.length i0 j0 k0) (m1 : FM as bs (i0 + k0) as.length (j0 + k0) bs.length i1 j1 k1) (m2 : FM as bs 0 i0 0 j0 i2 j2 k2) (m3 : FM as bs (i2 + k2) i0 (j2 + k2) j0 i3 j3 0)
    (q0 : 0 < k0) (q1 : 0 < i0) (q2 : 0 < j0) (q3 : i0 + k0 < as.length) (q3' : j0 + k0 < bs.length) (q4 : 0 < k1) (q5 : i0 + k0 = i1) (q5' : j0 + k0 ≠ j1) (q6 : i1 + k1 < as.length) (q7 : ¬ (j1 + k1 < bs.length))
    (q8 : 0 < k2) (q9 : i2 = 0) (q9' : j2 = 0) (q10 : i2 + k2 < i0) (q11 : j2 + k2 < j0)
    (k : ∀ S x0 d0 x1 d1 x2 d2 x3 d3 c h' tk m' p0 p1 p2 p3 p4 p5 p6 p7 p8 p9 p10 p11, Fr g L h' m' → News g L h' [(S, listOf #[.ref x0, .ref x1, .ref x2, .ref x3] c), (x0, mObj d0 (.int 0 p0) (.int 0 p1) (.int (0 + k2) p2)), (x1, mObj d1 (.int i0 p3) (.int j0 p4) (.int k0 p5)), (x2, mObj d2 (.int i1 p6) (.int j1 p7) (.int k1 p8)), (x3, mObj d3 (.int as.length p9) (.int bs.length p10) (.int 0 p11)), (M, instObj 242 dM), (dM, flmD w.params t la lb (.ref S) vop D S1 vbp)] → @LT.lt Nat _ dM S → @LT.lt Nat _ S x0 → @LT.lt Nat _ S x1 → @LT.lt Nat _ S x2 → @LT.lt Nat _ S x3 → Q (.ret (.ref S)) { s with heap := h', toks := tk }) :
    wpAny (model pw w) ((callerA.deeper e1).deeper (envG L)) (execs B203 (envG L)) Q (fun _ _ => False) s := by
  rw [show B203 = QPre ++ B203.drop 5 from (List.take_append_drop 5 B203).symm]
  refine execs_app (gmb_pre (base := base) (outer := outer) X T F N hla hva hlb hvb ral rbl ?_)
  intro ma qa tq h1 tk1 mm1 ta tb t0 t1 t2 t3 F1 N1 oq od
  obtain ⟨hp, gn, dr, tk0, os⟩ := s
  dsimp only at F N k F1 N1 ⊢
  clear F N
  conv in (B203.drop 5) => whnf
  repeat' ((fail_if_success (with_reducible show wpAny _ _ (execs (Stmt.Assign [PySem.Expr.Tuple _ _ _] (PySem.Expr.Call (PySem.Expr.Attribute _ _ _) _ _ _) _ :: _) _) _ _ _)); (first | ((first | (k_here; (with_reducible show wpAny _ _ (assign (Expr.Tuple _ _ _) _ (Value.ref _)) _ _ _); k_dflt (refine unpackM (by k_asm) (by k_asm) (by k_asm) (by k_mem) (by exact rfl) (by exact rfl) (by exact rfl) ?_); intro h' F' N'; (try k_sweep)) | (k_here; (with_reducible show wpAny _ _ (call (Value.ref 196) _) _ _ _); k_dflt (refine flm_fm (by k_asm) (by k_asm) (by k_asm) (by k_asm) (by k_asm) (by k_asm) (by k_mem) (by k_mem) (by exact rfl) (by k_asm) ?_); intro x' dx' u4' u5' u6' h' tk' F' N' l1; (try k_lt l1); (try k_sweep)) | (k_here; (with_reducible show wpAny _ _ (call (Value.builtin "len") _) _ _ _); k_dflt (refine len_base (by k_asm) (by k_asm) (by k_asm) (by k_asm) ?_); intro t') | walk1); all_goals (try dsimp only); all_goals (try ((with_reducible refine wp_tok ?_); intro tk))) | (dsimp only; (first | (k_here; (with_reducible show wpAny _ _ (assign (Expr.Tuple _ _ _) _ (Value.ref _)) _ _ _); k_dflt (refine unpackM (by k_asm) (by k_asm) (by k_asm) (by k_mem) (by exact rfl) (by exact rfl) (by exact rfl) ?_); intro h' F' N'; (try k_sweep)) | (k_here; (with_reducible show wpAny _ _ (call (Value.ref 196) _) _ _ _); k_dflt (refine flm_fm (by k_asm) (by k_asm) (by k_asm) (by k_asm) (by k_asm) (by k_asm) (by k_mem) (by k_mem) (by exact rfl) (by k_asm) ?_); intro x' dx' u4' u5' u6' h' tk' F' N' l1; (try k_lt l1); (try k_sweep)) | (k_here; (with_reducible show wpAny _ _ (call (Value.builtin "len") _) _ _ _); k_dflt (refine len_base (by k_asm) (by k_asm) (by k_asm) (by k_asm) ?_); intro t') | walk1))))
  rename Fr g L _ _ => F2a
  rename News g L _ _ => N2a
  refine q_both (va := va) (vb := vb) (ma := ma) (qa := qa) (tq := tq) (rest := []) (marr := #[]) X T B F2a (news_sub N2a (by repeat (first | exact List.forall_mem_nil _ | refine List.forall_mem_cons.mpr ⟨by k_mem, ?_⟩))) (by repeat (first | exact List.forall_mem_nil _ | refine List.forall_mem_cons.mpr ⟨ne_cls N2a (by k_mem) (by k_mem) (by first | (intro e; cases e; done) | (intro e; exact absurd (Value.type.inj e) (by decide))), ?_⟩)) (by repeat (first | exact List.forall_mem_nil _ | refine List.forall_mem_cons.mpr ⟨ne_cls N2a (by k_mem) (by k_mem) (by first | (intro e; cases e; done) | (intro e; exact absurd (Value.type.inj e) (by decide))), ?_⟩)) o1 oq (Nat.le_of_ble_eq_true rfl) R m0 (by omega) (by omega) (by omega) (by omega) (by omega) ?_
  clear F2a N2a
  intro tl2 v2a v2b v2c v2d tr2 w2a w2b w2c w2d x2 dx2 p2a p2b p2c kq2 km2 h2 tk2 mm2 F2 N2 ox2
  try dsimp only
  repeat' ((fail_if_success (with_reducible show wpAny _ _ (execs (Stmt.Assign [PySem.Expr.Tuple _ _ _] (PySem.Expr.Call (PySem.Expr.Attribute _ _ _) _ _ _) _ :: _) _) _ _ _)); (first | ((first | (k_here; (with_reducible show wpAny _ _ (assign (Expr.Tuple _ _ _) _ (Value.ref _)) _ _ _); k_dflt (refine unpackM (by k_asm) (by k_asm) (by k_asm) (by k_mem) (by exact rfl) (by exact rfl) (by exact rfl) ?_); intro h' F' N'; (try k_sweep)) | (k_here; (with_reducible show wpAny _ _ (call (Value.ref 196) _) _ _ _); k_dflt (refine flm_fm (by k_asm) (by k_asm) (by k_asm) (by k_asm) (by k_asm) (by k_asm) (by k_mem) (by k_mem) (by exact rfl) (by k_asm) ?_); intro x' dx' u4' u5' u6' h' tk' F' N' l1; (try k_lt l1); (try k_sweep)) | (k_here; (with_reducible show wpAny _ _ (call (Value.builtin "len") _) _ _ _); k_dflt (refine len_base (by k_asm) (by k_asm) (by k_asm) (by k_asm) ?_); intro t') | walk1); all_goals (try dsimp only); all_goals (try ((with_reducible refine wp_tok ?_); intro tk))) | (dsimp only; (first | (k_here; (with_reducible show wpAny _ _ (assign (Expr.Tuple _ _ _) _ (Value.ref _)) _ _ _); k_dflt (refine unpackM (by k_asm) (by k_asm) (by k_asm) (by k_mem) (by exact rfl) (by exact rfl) (by exact rfl) ?_); intro h' F' N'; (try k_sweep)) | (k_here; (with_reducible show wpAny _ _ (call (Value.ref 196) _) _ _ _); k_dflt (refine flm_fm (by k_asm) (by k_asm) (by k_asm) (by k_asm) (by k_asm) (by k_asm) (by k_mem) (by k_mem) (by exact rfl) (by k_asm) ?_); intro x' dx' u4' u5' u6' h' tk' F' N' l1; (try k_lt l1); (try k_sweep)) | (k_here; (with_reducible show wpAny _ _ (call (Value.builtin "len") _) _ _ _); k_dflt (refine len_base (by k_asm) (by k_asm) (by k_asm) (by k_asm) ?_); intro t') | walk1))))
  rename Fr g L _ _ => F3a
  rename News g L _ _ => N3a
  refine q_none (va := va) (vb := vb) (ma := ma) (qa := qa) (tq := tr2) (rest := (tl2, tup4 (.int 0 v2a) (.int i0 v2b) (.int 0 v2c) (.int j0 v2d)) :: (x2, mObj dx2 (.int i0 p2a) (.int j0 p2b) (.int k0 p2c)) :: []) (marr := (#[].push (.ref x2))) X T B F3a (news_sub N3a (by repeat (first | exact List.forall_mem_nil _ | refine List.forall_mem_cons.mpr ⟨by k_mem, ?_⟩))) (by repeat (first | exact List.forall_mem_nil _ | refine List.forall_mem_cons.mpr ⟨ne_cls N3a (by k_mem) (by k_mem) (by first | (intro e; cases e; done) | (intro e; exact absurd (Value.type.inj e) (by decide))), ?_⟩)) (by repeat (first | exact List.forall_mem_nil _ | refine List.forall_mem_cons.mpr ⟨ne_cls N3a (by k_mem) (by k_mem) (by first | (intro e; cases e; done) | (intro e; exact absurd (Value.type.inj e) (by decide))), ?_⟩)) o1 oq (Nat.le_of_ble_eq_true rfl) R m1 (by omega) (by omega) (by omega) (by omega) ?_
  clear F3a N3a
  intro x3 dx3 p3a p3b p3c kq3 km3 h3 tk3 mm3 F3 N3 ox3
  try dsimp only
  repeat' ((fail_if_success (with_reducible show wpAny _ _ (execs (Stmt.Assign [PySem.Expr.Tuple _ _ _] (PySem.Expr.Call (PySem.Expr.Attribute _ _ _) _ _ _) _ :: _) _) _ _ _)); (first | ((first | (k_here; (with_reducible show wpAny _ _ (assign (Expr.Tuple _ _ _) _ (Value.ref _)) _ _ _); k_dflt (refine unpackM (by k_asm) (by k_asm) (by k_asm) (by k_mem) (by exact rfl) (by exact rfl) (by exact rfl) ?_); intro h' F' N'; (try k_sweep)) | (k_here; (with_reducible show wpAny _ _ (call (Value.ref 196) _) _ _ _); k_dflt (refine flm_fm (by k_asm) (by k_asm) (by k_asm) (by k_asm) (by k_asm) (by k_asm) (by k_mem) (by k_mem) (by exact rfl) (by k_asm) ?_); intro x' dx' u4' u5' u6' h' tk' F' N' l1; (try k_lt l1); (try k_sweep)) | (k_here; (with_reducible show wpAny _ _ (call (Value.builtin "len") _) _ _ _); k_dflt (refine len_base (by k_asm) (by k_asm) (by k_asm) (by k_asm) ?_); intro t') | walk1); all_goals (try dsimp only); all_goals (try ((with_reducible refine wp_tok ?_); intro tk))) | (dsimp only; (first | (k_here; (with_reducible show wpAny _ _ (assign (Expr.Tuple _ _ _) _ (Value.ref _)) _ _ _); k_dflt (refine unpackM (by k_asm) (by k_asm) (by k_asm) (by k_mem) (by exact rfl) (by exact rfl) (by exact rfl) ?_); intro h' F' N'; (try k_sweep)) | (k_here; (with_reducible show wpAny _ _ (call (Value.ref 196) _) _ _ _); k_dflt (refine flm_fm (by k_asm) (by k_asm) (by k_asm) (by k_asm) (by k_asm) (by k_asm) (by k_mem) (by k_mem) (by exact rfl) (by k_asm) ?_); intro x' dx' u4' u5' u6' h' tk' F' N' l1; (try k_lt l1); (try k_sweep)) | (k_here; (with_reducible show wpAny _ _ (call (Value.builtin "len") _) _ _ _); k_dflt (refine len_base (by k_asm) (by k_asm) (by k_asm) (by k_asm) ?_); intro t') | walk1))))
  rename Fr g L _ _ => F4a
  rename News g L _ _ => N4a
  refine q_right (va := va) (vb := vb) (ma := ma) (qa := qa) (tq := tl2) (rest := (x2, mObj dx2 (.int i0 p2a) (.int j0 p2b) (.int k0 p2c)) :: (x3, mObj dx3 (.int i1 p3a) (.int j1 p3b) (.int k1 p3c)) :: []) (marr := ((#[].push (.ref x2)).push (.ref x3))) X T B F4a (news_sub N4a (by repeat (first | exact List.forall_mem_nil _ | refine List.forall_mem_cons.mpr ⟨by k_mem, ?_⟩))) (by repeat (first | exact List.forall_mem_nil _ | refine List.forall_mem_cons.mpr ⟨ne_cls N4a (by k_mem) (by k_mem) (by first | (intro e; cases e; done) | (intro e; exact absurd (Value.type.inj e) (by decide))), ?_⟩)) (by repeat (first | exact List.forall_mem_nil _ | refine List.forall_mem_cons.mpr ⟨ne_cls N4a (by k_mem) (by k_mem) (by first | (intro e; cases e; done) | (intro e; exact absurd (Value.type.inj e) (by decide))), ?_⟩)) o1 oq (Nat.le_of_ble_eq_true rfl) R m2 (by omega) (by omega) (by omega) (by omega) ?_
  clear F4a N4a
  intro tr4 w4a w4b w4c w4d x4 dx4 p4a p4b p4c kq4 km4 h4 tk4 mm4 F4 N4 ox4
  try dsimp only
  repeat' ((fail_if_success (with_reducible show wpAny _ _ (execs (Stmt.Assign [PySem.Expr.Tuple _ _ _] (PySem.Expr.Call (PySem.Expr.Attribute _ _ _) _ _ _) _ :: _) _) _ _ _)); (first | ((first | (k_here; (with_reducible show wpAny _ _ (assign (Expr.Tuple _ _ _) _ (Value.ref _)) _ _ _); k_dflt (refine unpackM (by k_asm) (by k_asm) (by k_asm) (by k_mem) (by exact rfl) (by exact rfl) (by exact rfl) ?_); intro h' F' N'; (try k_sweep)) | (k_here; (with_reducible show wpAny _ _ (call (Value.ref 196) _) _ _ _); k_dflt (refine flm_fm (by k_asm) (by k_asm) (by k_asm) (by k_asm) (by k_asm) (by k_asm) (by k_mem) (by k_mem) (by exact rfl) (by k_asm) ?_); intro x' dx' u4' u5' u6' h' tk' F' N' l1; (try k_lt l1); (try k_sweep)) | (k_here; (with_reducible show wpAny _ _ (call (Value.builtin "len") _) _ _ _); k_dflt (refine len_base (by k_asm) (by k_asm) (by k_asm) (by k_asm) ?_); intro t') | walk1); all_goals (try dsimp only); all_goals (try ((with_reducible refine wp_tok ?_); intro tk))) | (dsimp only; (first | (k_here; (with_reducible show wpAny _ _ (assign (Expr.Tuple _ _ _) _ (Value.ref _)) _ _ _); k_dflt (refine unpackM (by k_asm) (by k_asm) (by k_asm) (by k_mem) (by exact rfl) (by exact rfl) (by exact rfl) ?_); intro h' F' N'; (try k_sweep)) | (k_here; (with_reducible show wpAny _ _ (call (Value.ref 196) _) _ _ _); k_dflt (refine flm_fm (by k_asm) (by k_asm) (by k_asm) (by k_asm) (by k_asm) (by k_asm) (by k_mem) (by k_mem) (by exact rfl) (by k_asm) ?_); intro x' dx' u4' u5' u6' h' tk' F' N' l1; (try k_lt l1); (try k_sweep)) | (k_here; (with_reducible show wpAny _ _ (call (Value.builtin "len") _) _ _ _); k_dflt (refine len_base (by k_asm) (by k_asm) (by k_asm) (by k_asm) ?_); intro t') | walk1))))
  rename Fr g L _ _ => F5a
  rename News g L _ _ => N5a
  refine q_zero (va := va) (vb := vb) (ma := ma) (qa := qa) (tq := tr4) (rest := (x2, mObj dx2 (.int i0 p2a) (.int j0 p2b) (.int k0 p2c)) :: (x3, mObj dx3 (.int i1 p3a) (.int j1 p3b) (.int k1 p3c)) :: (x4, mObj dx4 (.int i2 p4a) (.int j2 p4b) (.int k2 p4c)) :: []) (marr := (((#[].push (.ref x2)).push (.ref x3)).push (.ref x4))) X T B F5a (news_sub N5a (by repeat (first | exact List.forall_mem_nil _ | refine List.forall_mem_cons.mpr ⟨by k_mem, ?_⟩))) (by repeat (first | exact List.forall_mem_nil _ | refine List.forall_mem_cons.mpr ⟨ne_cls N5a (by k_mem) (by k_mem) (by first | (intro e; cases e; done) | (intro e; exact absurd (Value.type.inj e) (by decide))), ?_⟩)) (by repeat (first | exact List.forall_mem_nil _ | refine List.forall_mem_cons.mpr ⟨ne_cls N5a (by k_mem) (by k_mem) (by first | (intro e; cases e; done) | (intro e; exact absurd (Value.type.inj e) (by decide))), ?_⟩)) o1 oq (Nat.le_of_ble_eq_true rfl) R m3 (by omega) ?_
  clear F5a N5a
  intro  kq5 km5 h5 tk5 mm5 F5 N5
  try dsimp only
  repeat' ((fail_if_success (with_reducible show wpAny _ _ (execs (Stmt.Assign [PySem.Expr.Tuple _ _ _] (PySem.Expr.Call (PySem.Expr.Attribute _ _ _) _ _ _) _ :: _) _) _ _ _)); (first | ((first | (k_here; (with_reducible show wpAny _ _ (assign (Expr.Tuple _ _ _) _ (Value.ref _)) _ _ _); k_dflt (refine unpackM (by k_asm) (by k_asm) (by k_asm) (by k_mem) (by exact rfl) (by exact rfl) (by exact rfl) ?_); intro h' F' N'; (try k_sweep)) | (k_here; (with_reducible show wpAny _ _ (call (Value.ref 196) _) _ _ _); k_dflt (refine flm_fm (by k_asm) (by k_asm) (by k_asm) (by k_asm) (by k_asm) (by k_asm) (by k_mem) (by k_mem) (by exact rfl) (by k_asm) ?_); intro x' dx' u4' u5' u6' h' tk' F' N' l1; (try k_lt l1); (try k_sweep)) | (k_here; (with_reducible show wpAny _ _ (call (Value.builtin "len") _) _ _ _); k_dflt (refine len_base (by k_asm) (by k_asm) (by k_asm) (by k_asm) ?_); intro t') | walk1); all_goals (try dsimp only); all_goals (try ((with_reducible refine wp_tok ?_); intro tk))) | (dsimp only; (first | (k_here; (with_reducible show wpAny _ _ (assign (Expr.Tuple _ _ _) _ (Value.ref _)) _ _ _); k_dflt (refine unpackM (by k_asm) (by k_asm) (by k_asm) (by k_mem) (by exact rfl) (by exact rfl) (by exact rfl) ?_); intro h' F' N'; (try k_sweep)) | (k_here; (with_reducible show wpAny _ _ (call (Value.ref 196) _) _ _ _); k_dflt (refine flm_fm (by k_asm) (by k_asm) (by k_asm) (by k_asm) (by k_asm) (by k_asm) (by k_mem) (by k_mem) (by exact rfl) (by k_asm) ?_); intro x' dx' u4' u5' u6' h' tk' F' N' l1; (try k_lt l1); (try k_sweep)) | (k_here; (with_reducible show wpAny _ _ (call (Value.builtin "len") _) _ _ _); k_dflt (refine len_base (by k_asm) (by k_asm) (by k_asm) (by k_asm) ?_); intro t') | walk1))))
  try dsimp only
  rename News g L _ _ => N9
  have n_x2 : @Ne Nat x2 ma := ne_cls N9 (by k_mem) (by k_mem) (by first | (intro e; cases e; done) | (intro e; exact absurd (Value.type.inj e) (by decide)))
  have n_x3 : @Ne Nat x3 ma := ne_cls N9 (by k_mem) (by k_mem) (by first | (intro e; cases e; done) | (intro e; exact absurd (Value.type.inj e) (by decide)))
  have n_x4 : @Ne Nat x4 ma := ne_cls N9 (by k_mem) (by k_mem) (by first | (intro e; cases e; done) | (intro e; exact absurd (Value.type.inj e) (by decide)))
  have n_M : @Ne Nat M ma := ne_cls N9 (by k_mem) (by k_mem) (by first | (intro e; cases e; done) | (intro e; exact absurd (Value.type.inj e) (by decide)))
  have n_dM : @Ne Nat dM ma := ne_cls N9 (by k_mem) (by k_mem) (by first | (intro e; cases e; done) | (intro e; exact absurd (Value.type.inj e) (by decide)))
  refine' sort3 ?u ?X ?F ?N ?U ?e ?x ?y ?z ?n ?n2 ?_
  (case u => exact Nat.le_of_ble_eq_true rfl); (case X => k_asm); (case F => k_asm); (case N => k_asm); (case U => k_updF); (case e => exact rfl); (case x => k_mem); (case y => k_mem); (case z => k_mem); (case n => omega); (case n2 => omega)
  intro h' c' F' N'
  try dsimp only at N' ⊢
  have N8 : News g L h' ((ma, listOf #[.ref x4, .ref x2, .ref x3] c') :: (x4, mObj dx4 (.int i2 p4a) (.int j2 p4b) (.int k2 p4c)) :: (x2, mObj dx2 (.int i0 p2a) (.int j0 p2b) (.int k0 p2c)) :: (x3, mObj dx3 (.int i1 p3a) (.int j1 p3b) (.int k1 p3c)) :: (M, instObj 242 dM) :: (dM, flmD w.params t la lb .none vop D S1 vbp) :: []) := news_sub N' (by repeat (first | exact List.forall_mem_nil _ | refine List.forall_mem_cons.mpr ⟨by k_mem, ?_⟩))
  refine' gmb_tail3 X T B (fr_over (S := gS M (.int as.length _) (.int bs.length _) _) F' (by repeat (first | exact List.forall_mem_nil _ | refine List.forall_mem_cons.mpr ⟨rfl, ?_⟩))) N8 ?_ ?_ ?_ ?_ ?_ ?_ ?_ ?_ ?_ ?_ ?_ ?_ ?_ ?_
  all_goals first | omega | exact k
set_option maxHeartbeats 4000000 in
theorem gmbB {w : World} {e1 : Env} {s : Shared} {g base : Heap} {outer : List Env} {L M dM la lb D S1 : Addr} {mg mb : Str → Option Value} {mean : ExcName → Option Value} {t : Nat → Tok} {vop vbp : Value} {Q : Flow → Shared → Prop} {va vb : List Value} {as bs : List Int}
    (X : (K w.params).In g) (T : Top qv (looseW qv loose) mean mg mb g) (B : Below (callerA.deeper e1) base outer g)
    (F : Fr g L s.heap (fun y => List.lookup y [(Str.ofString "self", Value.ref M)].reverse))
    (N : News g L s.heap [(M, instObj 242 dM), (dM, flmD w.params t la lb .none vop D S1 vbp)]) (o1 : @LT.lt Nat _ dM M)
    (hla : g.IsList la va.toArray) (hva : IntsAre va as) (hlb : g.IsList lb vb.toArray) (hvb : IntsAre vb bs) (ral : (as.length : Int) < 100000) (rbl : (bs.length : Int) < 100000)
    (R : Ready w g M dM t la lb .none vop D S1 vbp as bs)
    {i0 j0 k0 i1 j1 k1 i2 j2 : Int} (m0 : FM as bs 0 as.length 0 bs.length i0 j0 k0) (m1 : FM as bs (i0 + k0) as.length (j0 + k0) bs.length i1 j1 k1) (m2 : FM as bs (i0 + k0) i1 (j0 + k0) j1 i2 j2 0)
    (q0 : 0 < k0) (q1 : i0 = 0) (q2 : j0 = 0) (q3 : i0 + k0 < as.length) (q3' : j0 + k0 < bs.length) (q4 : 0 < k1) (q5 : i0 + k0 < i1) (q5' : j0 + k0 < j1) (q6 : i1 + k1 < as.length) (q7 : ¬ (j1 + k1 < bs.length))
    (k : ∀ S x0 d0 x1 d1 x2 d2 c h' tk m' p0 p1 p2 p3 p4 p5 p6 p7 p8, Fr g L h' m' → News g L h' [(S, listOf #[.ref x0, .ref x1, .ref x2] c), (x0, mObj d0 (.int 0 p0) (.int 0 p1) (.int (0 + k0) p2)), (x1, mObj d1 (.int i1 p3) (.int j1 p4) (.int k1 p5)), (x2, mObj d2 (.int as.length p6) (.int bs.length p7) (.int 0 p8)), (M, instObj 242 dM), (dM, flmD w.params t la lb (.ref S) vop D S1 vbp)] → @LT.lt Nat _ dM S → @LT.lt Nat _ S x0 → @LT.lt Nat _ S x1 → @LT.lt Nat _ S x2 → Q (.ret (.ref S)) { s with heap := h', toks := tk }) :
    wpAny (model pw w) ((callerA.deeper e1).deeper (envG L)) (execs B203 (envG L)) Q (fun _ _ => False) s := by
  rw [show B203 = QPre ++ B203.drop 5 from (List.take_append_drop 5 B203).symm]
  refine execs_app (gmb_pre (base := base) (outer := outer) X T F N hla hva hlb hvb ral rbl ?_)
  intro ma qa tq h1 tk1 mm1 ta tb t0 t1 t2 t3 F1 N1 oq od
  obtain ⟨hp, gn, dr, tk0, os⟩ := s
  dsimp only at F N k F1 N1 ⊢
  clear F N
  conv in (B203.drop 5) => whnf
  repeat' ((fail_if_success (with_reducible show wpAny _ _ (execs (Stmt.Assign [PySem.Expr.Tuple _ _ _] (PySem.Expr.Call (PySem.Expr.Attribute _ _ _) _ _ _) _ :: _) _) _ _ _)); (first | ((first | (k_here; (with_reducible show wpAny _ _ (assign (Expr.Tuple _ _ _) _ (Value.ref _)) _ _ _); k_dflt (refine unpackM (by k_asm) (by k_asm) (by k_asm) (by k_mem) (by exact rfl) (by exact rfl) (by exact rfl) ?_); intro h' F' N'; (try k_sweep)) | (k_here; (with_reducible show wpAny _ _ (call (Value.ref 196) _) _ _ _); k_dflt (refine flm_fm (by k_asm) (by k_asm) (by k_asm) (by k_asm) (by k_asm) (by k_asm) (by k_mem) (by k_mem) (by exact rfl) (by k_asm) ?_); intro x' dx' u4' u5' u6' h' tk' F' N' l1; (try k_lt l1); (try k_sweep)) | (k_here; (with_reducible show wpAny _ _ (call (Value.builtin "len") _) _ _ _); k_dflt (refine len_base (by k_asm) (by k_asm) (by k_asm) (by k_asm) ?_); intro t') | walk1); all_goals (try dsimp only); all_goals (try ((with_reducible refine wp_tok ?_); intro tk))) | (dsimp only; (first | (k_here; (with_reducible show wpAny _ _ (assign (Expr.Tuple _ _ _) _ (Value.ref _)) _ _ _); k_dflt (refine unpackM (by k_asm) (by k_asm) (by k_asm) (by k_mem) (by exact rfl) (by exact rfl) (by exact rfl) ?_); intro h' F' N'; (try k_sweep)) | (k_here; (with_reducible show wpAny _ _ (call (Value.ref 196) _) _ _ _); k_dflt (refine flm_fm (by k_asm) (by k_asm) (by k_asm) (by k_asm) (by k_asm) (by k_asm) (by k_mem) (by k_mem) (by exact rfl) (by k_asm) ?_); intro x' dx' u4' u5' u6' h' tk' F' N' l1; (try k_lt l1); (try k_sweep)) | (k_here; (with_reducible show wpAny _ _ (call (Value.builtin "len") _) _ _ _); k_dflt (refine len_base (by k_asm) (by k_asm) (by k_asm) (by k_asm) ?_); intro t') | walk1))))
  rename Fr g L _ _ => F2a
  rename News g L _ _ => N2a
  refine q_right (va := va) (vb := vb) (ma := ma) (qa := qa) (tq := tq) (rest := []) (marr := #[]) X T B F2a (news_sub N2a (by repeat (first | exact List.forall_mem_nil _ | refine List.forall_mem_cons.mpr ⟨by k_mem, ?_⟩))) (by repeat (first | exact List.forall_mem_nil _ | refine List.forall_mem_cons.mpr ⟨ne_cls N2a (by k_mem) (by k_mem) (by first | (intro e; cases e; done) | (intro e; exact absurd (Value.type.inj e) (by decide))), ?_⟩)) (by repeat (first | exact List.forall_mem_nil _ | refine List.forall_mem_cons.mpr ⟨ne_cls N2a (by k_mem) (by k_mem) (by first | (intro e; cases e; done) | (intro e; exact absurd (Value.type.inj e) (by decide))), ?_⟩)) o1 oq (Nat.le_of_ble_eq_true rfl) R m0 (by omega) (by omega) (by omega) (by omega) ?_
  clear F2a N2a
  intro tr2 w2a w2b w2c w2d x2 dx2 p2a p2b p2c kq2 km2 h2 tk2 mm2 F2 N2 ox2
  try dsimp only
  repeat' ((fail_if_success (with_reducible show wpAny _ _ (execs (Stmt.Assign [PySem.Expr.Tuple _ _ _] (PySem.Expr.Call (PySem.Expr.Attribute _ _ _) _ _ _) _ :: _) _) _ _ _)); (first | ((first | (k_here; (with_reducible show wpAny _ _ (assign (Expr.Tuple _ _ _) _ (Value.ref _)) _ _ _); k_dflt (refine unpackM (by k_asm) (by k_asm) (by k_asm) (by k_mem) (by exact rfl) (by exact rfl) (by exact rfl) ?_); intro h' F' N'; (try k_sweep)) | (k_here; (with_reducible show wpAny _ _ (call (Value.ref 196) _) _ _ _); k_dflt (refine flm_fm (by k_asm) (by k_asm) (by k_asm) (by k_asm) (by k_asm) (by k_asm) (by k_mem) (by k_mem) (by exact rfl) (by k_asm) ?_); intro x' dx' u4' u5' u6' h' tk' F' N' l1; (try k_lt l1); (try k_sweep)) | (k_here; (with_reducible show wpAny _ _ (call (Value.builtin "len") _) _ _ _); k_dflt (refine len_base (by k_asm) (by k_asm) (by k_asm) (by k_asm) ?_); intro t') | walk1); all_goals (try dsimp only); all_goals (try ((with_reducible refine wp_tok ?_); intro tk))) | (dsimp only; (first | (k_here; (with_reducible show wpAny _ _ (assign (Expr.Tuple _ _ _) _ (Value.ref _)) _ _ _); k_dflt (refine unpackM (by k_asm) (by k_asm) (by k_asm) (by k_mem) (by exact rfl) (by exact rfl) (by exact rfl) ?_); intro h' F' N'; (try k_sweep)) | (k_here; (with_reducible show wpAny _ _ (call (Value.ref 196) _) _ _ _); k_dflt (refine flm_fm (by k_asm) (by k_asm) (by k_asm) (by k_asm) (by k_asm) (by k_asm) (by k_mem) (by k_mem) (by exact rfl) (by k_asm) ?_); intro x' dx' u4' u5' u6' h' tk' F' N' l1; (try k_lt l1); (try k_sweep)) | (k_here; (with_reducible show wpAny _ _ (call (Value.builtin "len") _) _ _ _); k_dflt (refine len_base (by k_asm) (by k_asm) (by k_asm) (by k_asm) ?_); intro t') | walk1))))
  rename Fr g L _ _ => F3a
  rename News g L _ _ => N3a
  refine q_left (va := va) (vb := vb) (ma := ma) (qa := qa) (tq := tr2) (rest := (x2, mObj dx2 (.int i0 p2a) (.int j0 p2b) (.int k0 p2c)) :: []) (marr := (#[].push (.ref x2))) X T B F3a (news_sub N3a (by repeat (first | exact List.forall_mem_nil _ | refine List.forall_mem_cons.mpr ⟨by k_mem, ?_⟩))) (by repeat (first | exact List.forall_mem_nil _ | refine List.forall_mem_cons.mpr ⟨ne_cls N3a (by k_mem) (by k_mem) (by first | (intro e; cases e; done) | (intro e; exact absurd (Value.type.inj e) (by decide))), ?_⟩)) (by repeat (first | exact List.forall_mem_nil _ | refine List.forall_mem_cons.mpr ⟨ne_cls N3a (by k_mem) (by k_mem) (by first | (intro e; cases e; done) | (intro e; exact absurd (Value.type.inj e) (by decide))), ?_⟩)) o1 oq (Nat.le_of_ble_eq_true rfl) R m1 (by omega) (by omega) (by omega) (by omega) ?_
  clear F3a N3a
  intro tl3 v3a v3b v3c v3d x3 dx3 p3a p3b p3c kq3 km3 h3 tk3 mm3 F3 N3 ox3
  try dsimp only
  repeat' ((fail_if_success (with_reducible show wpAny _ _ (execs (Stmt.Assign [PySem.Expr.Tuple _ _ _] (PySem.Expr.Call (PySem.Expr.Attribute _ _ _) _ _ _) _ :: _) _) _ _ _)); (first | ((first | (k_here; (with_reducible show wpAny _ _ (assign (Expr.Tuple _ _ _) _ (Value.ref _)) _ _ _); k_dflt (refine unpackM (by k_asm) (by k_asm) (by k_asm) (by k_mem) (by exact rfl) (by exact rfl) (by exact rfl) ?_); intro h' F' N'; (try k_sweep)) | (k_here; (with_reducible show wpAny _ _ (call (Value.ref 196) _) _ _ _); k_dflt (refine flm_fm (by k_asm) (by k_asm) (by k_asm) (by k_asm) (by k_asm) (by k_asm) (by k_mem) (by k_mem) (by exact rfl) (by k_asm) ?_); intro x' dx' u4' u5' u6' h' tk' F' N' l1; (try k_lt l1); (try k_sweep)) | (k_here; (with_reducible show wpAny _ _ (call (Value.builtin "len") _) _ _ _); k_dflt (refine len_base (by k_asm) (by k_asm) (by k_asm) (by k_asm) ?_); intro t') | walk1); all_goals (try dsimp only); all_goals (try ((with_reducible refine wp_tok ?_); intro tk))) | (dsimp only; (first | (k_here; (with_reducible show wpAny _ _ (assign (Expr.Tuple _ _ _) _ (Value.ref _)) _ _ _); k_dflt (refine unpackM (by k_asm) (by k_asm) (by k_asm) (by k_mem) (by exact rfl) (by exact rfl) (by exact rfl) ?_); intro h' F' N'; (try k_sweep)) | (k_here; (with_reducible show wpAny _ _ (call (Value.ref 196) _) _ _ _); k_dflt (refine flm_fm (by k_asm) (by k_asm) (by k_asm) (by k_asm) (by k_asm) (by k_asm) (by k_mem) (by k_mem) (by exact rfl) (by k_asm) ?_); intro x' dx' u4' u5' u6' h' tk' F' N' l1; (try k_lt l1); (try k_sweep)) | (k_here; (with_reducible show wpAny _ _ (call (Value.builtin "len") _) _ _ _); k_dflt (refine len_base (by k_asm) (by k_asm) (by k_asm) (by k_asm) ?_); intro t') | walk1))))
  rename Fr g L _ _ => F4a
  rename News g L _ _ => N4a
  refine q_zero (va := va) (vb := vb) (ma := ma) (qa := qa) (tq := tl3) (rest := (x2, mObj dx2 (.int i0 p2a) (.int j0 p2b) (.int k0 p2c)) :: (x3, mObj dx3 (.int i1 p3a) (.int j1 p3b) (.int k1 p3c)) :: []) (marr := ((#[].push (.ref x2)).push (.ref x3))) X T B F4a (news_sub N4a (by repeat (first | exact List.forall_mem_nil _ | refine List.forall_mem_cons.mpr ⟨by k_mem, ?_⟩))) (by repeat (first | exact List.forall_mem_nil _ | refine List.forall_mem_cons.mpr ⟨ne_cls N4a (by k_mem) (by k_mem) (by first | (intro e; cases e; done) | (intro e; exact absurd (Value.type.inj e) (by decide))), ?_⟩)) (by repeat (first | exact List.forall_mem_nil _ | refine List.forall_mem_cons.mpr ⟨ne_cls N4a (by k_mem) (by k_mem) (by first | (intro e; cases e; done) | (intro e; exact absurd (Value.type.inj e) (by decide))), ?_⟩)) o1 oq (Nat.le_of_ble_eq_true rfl) R m2 (by omega) ?_
  clear F4a N4a
  intro  kq4 km4 h4 tk4 mm4 F4 N4
  try dsimp only
  repeat' ((fail_if_success (with_reducible show wpAny _ _ (execs (Stmt.Assign [PySem.Expr.Tuple _ _ _] (PySem.Expr.Call (PySem.Expr.Attribute _ _ _) _ _ _) _ :: _) _) _ _ _)); (first | ((first | (k_here; (with_reducible show wpAny _ _ (assign (Expr.Tuple _ _ _) _ (Value.ref _)) _ _ _); k_dflt (refine unpackM (by k_asm) (by k_asm) (by k_asm) (by k_mem) (by exact rfl) (by exact rfl) (by exact rfl) ?_); intro h' F' N'; (try k_sweep)) | (k_here; (with_reducible show wpAny _ _ (call (Value.ref 196) _) _ _ _); k_dflt (refine flm_fm (by k_asm) (by k_asm) (by k_asm) (by k_asm) (by k_asm) (by k_asm) (by k_mem) (by k_mem) (by exact rfl) (by k_asm) ?_); intro x' dx' u4' u5' u6' h' tk' F' N' l1; (try k_lt l1); (try k_sweep)) | (k_here; (with_reducible show wpAny _ _ (call (Value.builtin "len") _) _ _ _); k_dflt (refine len_base (by k_asm) (by k_asm) (by k_asm) (by k_asm) ?_); intro t') | walk1); all_goals (try dsimp only); all_goals (try ((with_reducible refine wp_tok ?_); intro tk))) | (dsimp only; (first | (k_here; (with_reducible show wpAny _ _ (assign (Expr.Tuple _ _ _) _ (Value.ref _)) _ _ _); k_dflt (refine unpackM (by k_asm) (by k_asm) (by k_asm) (by k_mem) (by exact rfl) (by exact rfl) (by exact rfl) ?_); intro h' F' N'; (try k_sweep)) | (k_here; (with_reducible show wpAny _ _ (call (Value.ref 196) _) _ _ _); k_dflt (refine flm_fm (by k_asm) (by k_asm) (by k_asm) (by k_asm) (by k_asm) (by k_asm) (by k_mem) (by k_mem) (by exact rfl) (by k_asm) ?_); intro x' dx' u4' u5' u6' h' tk' F' N' l1; (try k_lt l1); (try k_sweep)) | (k_here; (with_reducible show wpAny _ _ (call (Value.builtin "len") _) _ _ _); k_dflt (refine len_base (by k_asm) (by k_asm) (by k_asm) (by k_asm) ?_); intro t') | walk1))))
  try dsimp only
  rename News g L _ _ => N9
  have n_x2 : @Ne Nat x2 ma := ne_cls N9 (by k_mem) (by k_mem) (by first | (intro e; cases e; done) | (intro e; exact absurd (Value.type.inj e) (by decide)))
  have n_x3 : @Ne Nat x3 ma := ne_cls N9 (by k_mem) (by k_mem) (by first | (intro e; cases e; done) | (intro e; exact absurd (Value.type.inj e) (by decide)))
  have n_M : @Ne Nat M ma := ne_cls N9 (by k_mem) (by k_mem) (by first | (intro e; cases e; done) | (intro e; exact absurd (Value.type.inj e) (by decide)))
  have n_dM : @Ne Nat dM ma := ne_cls N9 (by k_mem) (by k_mem) (by first | (intro e; cases e; done) | (intro e; exact absurd (Value.type.inj e) (by decide)))
  refine' sort2_up ?u ?X ?F ?N ?U ?e ?x ?y ?n ?_
  (case u => exact Nat.le_of_ble_eq_true rfl); (case X => k_asm); (case F => k_asm); (case N => k_asm); (case U => k_updF); (case e => exact rfl); (case x => k_mem); (case y => k_mem); (case n => omega)
  intro h' c' F' N'
  try dsimp only at N' ⊢
  have N8 : News g L h' ((ma, listOf #[.ref x2, .ref x3] c') :: (x2, mObj dx2 (.int i0 p2a) (.int j0 p2b) (.int k0 p2c)) :: (x3, mObj dx3 (.int i1 p3a) (.int j1 p3b) (.int k1 p3c)) :: (M, instObj 242 dM) :: (dM, flmD w.params t la lb .none vop D S1 vbp) :: []) := news_sub N' (by repeat (first | exact List.forall_mem_nil _ | refine List.forall_mem_cons.mpr ⟨by k_mem, ?_⟩))
  refine' gmb_tail2 X T B (fr_over (S := gS M (.int as.length _) (.int bs.length _) _) F' (by repeat (first | exact List.forall_mem_nil _ | refine List.forall_mem_cons.mpr ⟨rfl, ?_⟩))) N8 ?_ ?_ ?_ ?_ ?_ ?_ ?_ ?_ ?_ ?_
  all_goals first | omega | exact k
set_option maxHeartbeats 4000000 in
theorem gmbC {w : World} {e1 : Env} {s : Shared} {g base : Heap} {outer : List Env} {L M dM la lb D S1 : Addr} {mg mb : Str → Option Value} {mean : ExcName → Option Value} {t : Nat → Tok} {vop vbp : Value} {Q : Flow → Shared → Prop} {va vb : List Value} {as bs : List Int}
    (X : (K w.params).In g) (T : Top qv (looseW qv loose) mean mg mb g) (B : Below (callerA.deeper e1) base outer g)
    (F : Fr g L s.heap (fun y => List.lookup y [(Str.ofString "self", Value.ref M)].reverse))
    (N : News g L s.heap [(M, instObj 242 dM), (dM, flmD w.params t la lb .none vop D S1 vbp)]) (o1 : @LT.lt Nat _ dM M)
    (hla : g.IsList la va.toArray) (hva : IntsAre va as) (hlb : g.IsList lb vb.toArray) (hvb : IntsAre vb bs) (ral : (as.length : Int) < 100000) (rbl : (bs.length : Int) < 100000)
    (R : Ready w g M dM t la lb .none vop D S1 vbp as bs)
    {i0 j0 k0 i1 j1 k1 i2 j2 : Int} (m0 : FM as bs 0 as.length 0 bs.length i0 j0 k0) (m1 : FM as bs 0 i0 0 j0 i1 j1 k1) (m2 : FM as bs (i1 + k1) i0 (j1 + k1) j0 i2 j2 0)
    (q0 : 0 < k0) (q1 : 0 < i0) (q2 : 0 < j0) (q3 : i0 + k0 < as.length) (q3' : ¬ (j0 + k0 < bs.length)) (q4 : 0 < k1) (q5 : i1 = 0) (q5' : j1 = 0) (q6 : i1 + k1 < i0) (q7 : j1 + k1 < j0)
    (k : ∀ S x0 d0 x1 d1 x2 d2 c h' tk m' p0 p1 p2 p3 p4 p5 p6 p7 p8, Fr g L h' m' → News g L h' [(S, listOf #[.ref x0, .ref x1, .ref x2] c), (x0, mObj d0 (.int 0 p0) (.int 0 p1) (.int (0 + k1) p2)), (x1, mObj d1 (.int i0 p3) (.int j0 p4) (.int k0 p5)), (x2, mObj d2 (.int as.length p6) (.int bs.length p7) (.int 0 p8)), (M, instObj 242 dM), (dM, flmD w.params t la lb (.ref S) vop D S1 vbp)] → @LT.lt Nat _ dM S → @LT.lt Nat _ S x0 → @LT.lt Nat _ S x1 → @LT.lt Nat _ S x2 → Q (.ret (.ref S)) { s with heap := h', toks := tk }) :
    wpAny (model pw w) ((callerA.deeper e1).deeper (envG L)) (execs B203 (envG L)) Q (fun _ _ => False) s := by
  rw [show B203 = QPre ++ B203.drop 5 from (List.take_append_drop 5 B203).symm]
  refine execs_app (gmb_pre (base := base) (outer := outer) X T F N hla hva hlb hvb ral rbl ?_)
  intro ma qa tq h1 tk1 mm1 ta tb t0 t1 t2 t3 F1 N1 oq od
  obtain ⟨hp, gn, dr, tk0, os⟩ := s
  dsimp only at F N k F1 N1 ⊢
  clear F N
  conv in (B203.drop 5) => whnf
  repeat' ((fail_if_success (with_reducible show wpAny _ _ (execs (Stmt.Assign [PySem.Expr.Tuple _ _ _] (PySem.Expr.Call (PySem.Expr.Attribute _ _ _) _ _ _) _ :: _) _) _ _ _)); (first | ((first | (k_here; (with_reducible show wpAny _ _ (assign (Expr.Tuple _ _ _) _ (Value.ref _)) _ _ _); k_dflt (refine unpackM (by k_asm) (by k_asm) (by k_asm) (by k_mem) (by exact rfl) (by exact rfl) (by exact rfl) ?_); intro h' F' N'; (try k_sweep)) | (k_here; (with_reducible show wpAny _ _ (call (Value.ref 196) _) _ _ _); k_dflt (refine flm_fm (by k_asm) (by k_asm) (by k_asm) (by k_asm) (by k_asm) (by k_asm) (by k_mem) (by k_mem) (by exact rfl) (by k_asm) ?_); intro x' dx' u4' u5' u6' h' tk' F' N' l1; (try k_lt l1); (try k_sweep)) | (k_here; (with_reducible show wpAny _ _ (call (Value.builtin "len") _) _ _ _); k_dflt (refine len_base (by k_asm) (by k_asm) (by k_asm) (by k_asm) ?_); intro t') | walk1); all_goals (try dsimp only); all_goals (try ((with_reducible refine wp_tok ?_); intro tk))) | (dsimp only; (first | (k_here; (with_reducible show wpAny _ _ (assign (Expr.Tuple _ _ _) _ (Value.ref _)) _ _ _); k_dflt (refine unpackM (by k_asm) (by k_asm) (by k_asm) (by k_mem) (by exact rfl) (by exact rfl) (by exact rfl) ?_); intro h' F' N'; (try k_sweep)) | (k_here; (with_reducible show wpAny _ _ (call (Value.ref 196) _) _ _ _); k_dflt (refine flm_fm (by k_asm) (by k_asm) (by k_asm) (by k_asm) (by k_asm) (by k_asm) (by k_mem) (by k_mem) (by exact rfl) (by k_asm) ?_); intro x' dx' u4' u5' u6' h' tk' F' N' l1; (try k_lt l1); (try k_sweep)) | (k_here; (with_reducible show wpAny _ _ (call (Value.builtin "len") _) _ _ _); k_dflt (refine len_base (by k_asm) (by k_asm) (by k_asm) (by k_asm) ?_); intro t') | walk1))))
  rename Fr g L _ _ => F2a
  rename News g L _ _ => N2a
  refine q_left (va := va) (vb := vb) (ma := ma) (qa := qa) (tq := tq) (rest := []) (marr := #[]) X T B F2a (news_sub N2a (by repeat (first | exact List.forall_mem_nil _ | refine List.forall_mem_cons.mpr ⟨by k_mem, ?_⟩))) (by repeat (first | exact List.forall_mem_nil _ | refine List.forall_mem_cons.mpr ⟨ne_cls N2a (by k_mem) (by k_mem) (by first | (intro e; cases e; done) | (intro e; exact absurd (Value.type.inj e) (by decide))), ?_⟩)) (by repeat (first | exact List.forall_mem_nil _ | refine List.forall_mem_cons.mpr ⟨ne_cls N2a (by k_mem) (by k_mem) (by first | (intro e; cases e; done) | (intro e; exact absurd (Value.type.inj e) (by decide))), ?_⟩)) o1 oq (Nat.le_of_ble_eq_true rfl) R m0 (by omega) (by omega) (by omega) (by omega) ?_
  clear F2a N2a
  intro tl2 v2a v2b v2c v2d x2 dx2 p2a p2b p2c kq2 km2 h2 tk2 mm2 F2 N2 ox2
  try dsimp only
  repeat' ((fail_if_success (with_reducible show wpAny _ _ (execs (Stmt.Assign [PySem.Expr.Tuple _ _ _] (PySem.Expr.Call (PySem.Expr.Attribute _ _ _) _ _ _) _ :: _) _) _ _ _)); (first | ((first | (k_here; (with_reducible show wpAny _ _ (assign (Expr.Tuple _ _ _) _ (Value.ref _)) _ _ _); k_dflt (refine unpackM (by k_asm) (by k_asm) (by k_asm) (by k_mem) (by exact rfl) (by exact rfl) (by exact rfl) ?_); intro h' F' N'; (try k_sweep)) | (k_here; (with_reducible show wpAny _ _ (call (Value.ref 196) _) _ _ _); k_dflt (refine flm_fm (by k_asm) (by k_asm) (by k_asm) (by k_asm) (by k_asm) (by k_asm) (by k_mem) (by k_mem) (by exact rfl) (by k_asm) ?_); intro x' dx' u4' u5' u6' h' tk' F' N' l1; (try k_lt l1); (try k_sweep)) | (k_here; (with_reducible show wpAny _ _ (call (Value.builtin "len") _) _ _ _); k_dflt (refine len_base (by k_asm) (by k_asm) (by k_asm) (by k_asm) ?_); intro t') | walk1); all_goals (try dsimp only); all_goals (try ((with_reducible refine wp_tok ?_); intro tk))) | (dsimp only; (first | (k_here; (with_reducible show wpAny _ _ (assign (Expr.Tuple _ _ _) _ (Value.ref _)) _ _ _); k_dflt (refine unpackM (by k_asm) (by k_asm) (by k_asm) (by k_mem) (by exact rfl) (by exact rfl) (by exact rfl) ?_); intro h' F' N'; (try k_sweep)) | (k_here; (with_reducible show wpAny _ _ (call (Value.ref 196) _) _ _ _); k_dflt (refine flm_fm (by k_asm) (by k_asm) (by k_asm) (by k_asm) (by k_asm) (by k_asm) (by k_mem) (by k_mem) (by exact rfl) (by k_asm) ?_); intro x' dx' u4' u5' u6' h' tk' F' N' l1; (try k_lt l1); (try k_sweep)) | (k_here; (with_reducible show wpAny _ _ (call (Value.builtin "len") _) _ _ _); k_dflt (refine len_base (by k_asm) (by k_asm) (by k_asm) (by k_asm) ?_); intro t') | walk1))))
  rename Fr g L _ _ => F3a
  rename News g L _ _ => N3a
  refine q_right (va := va) (vb := vb) (ma := ma) (qa := qa) (tq := tl2) (rest := (x2, mObj dx2 (.int i0 p2a) (.int j0 p2b) (.int k0 p2c)) :: []) (marr := (#[].push (.ref x2))) X T B F3a (news_sub N3a (by repeat (first | exact List.forall_mem_nil _ | refine List.forall_mem_cons.mpr ⟨by k_mem, ?_⟩))) (by repeat (first | exact List.forall_mem_nil _ | refine List.forall_mem_cons.mpr ⟨ne_cls N3a (by k_mem) (by k_mem) (by first | (intro e; cases e; done) | (intro e; exact absurd (Value.type.inj e) (by decide))), ?_⟩)) (by repeat (first | exact List.forall_mem_nil _ | refine List.forall_mem_cons.mpr ⟨ne_cls N3a (by k_mem) (by k_mem) (by first | (intro e; cases e; done) | (intro e; exact absurd (Value.type.inj e) (by decide))), ?_⟩)) o1 oq (Nat.le_of_ble_eq_true rfl) R m1 (by omega) (by omega) (by omega) (by omega) ?_
  clear F3a N3a
  intro tr3 w3a w3b w3c w3d x3 dx3 p3a p3b p3c kq3 km3 h3 tk3 mm3 F3 N3 ox3
  try dsimp only
  repeat' ((fail_if_success (with_reducible show wpAny _ _ (execs (Stmt.Assign [PySem.Expr.Tuple _ _ _] (PySem.Expr.Call (PySem.Expr.Attribute _ _ _) _ _ _) _ :: _) _) _ _ _)); (first | ((first | (k_here; (with_reducible show wpAny _ _ (assign (Expr.Tuple _ _ _) _ (Value.ref _)) _ _ _); k_dflt (refine unpackM (by k_asm) (by k_asm) (by k_asm) (by k_mem) (by exact rfl) (by exact rfl) (by exact rfl) ?_); intro h' F' N'; (try k_sweep)) | (k_here; (with_reducible show wpAny _ _ (call (Value.ref 196) _) _ _ _); k_dflt (refine flm_fm (by k_asm) (by k_asm) (by k_asm) (by k_asm) (by k_asm) (by k_asm) (by k_mem) (by k_mem) (by exact rfl) (by k_asm) ?_); intro x' dx' u4' u5' u6' h' tk' F' N' l1; (try k_lt l1); (try k_sweep)) | (k_here; (with_reducible show wpAny _ _ (call (Value.builtin "len") _) _ _ _); k_dflt (refine len_base (by k_asm) (by k_asm) (by k_asm) (by k_asm) ?_); intro t') | walk1); all_goals (try dsimp only); all_goals (try ((with_reducible refine wp_tok ?_); intro tk))) | (dsimp only; (first | (k_here; (with_reducible show wpAny _ _ (assign (Expr.Tuple _ _ _) _ (Value.ref _)) _ _ _); k_dflt (refine unpackM (by k_asm) (by k_asm) (by k_asm) (by k_mem) (by exact rfl) (by exact rfl) (by exact rfl) ?_); intro h' F' N'; (try k_sweep)) | (k_here; (with_reducible show wpAny _ _ (call (Value.ref 196) _) _ _ _); k_dflt (refine flm_fm (by k_asm) (by k_asm) (by k_asm) (by k_asm) (by k_asm) (by k_asm) (by k_mem) (by k_mem) (by exact rfl) (by k_asm) ?_); intro x' dx' u4' u5' u6' h' tk' F' N' l1; (try k_lt l1); (try k_sweep)) | (k_here; (with_reducible show wpAny _ _ (call (Value.builtin "len") _) _ _ _); k_dflt (refine len_base (by k_asm) (by k_asm) (by k_asm) (by k_asm) ?_); intro t') | walk1))))
  rename Fr g L _ _ => F4a
  rename News g L _ _ => N4a
  refine q_zero (va := va) (vb := vb) (ma := ma) (qa := qa) (tq := tr3) (rest := (x2, mObj dx2 (.int i0 p2a) (.int j0 p2b) (.int k0 p2c)) :: (x3, mObj dx3 (.int i1 p3a) (.int j1 p3b) (.int k1 p3c)) :: []) (marr := ((#[].push (.ref x2)).push (.ref x3))) X T B F4a (news_sub N4a (by repeat (first | exact List.forall_mem_nil _ | refine List.forall_mem_cons.mpr ⟨by k_mem, ?_⟩))) (by repeat (first | exact List.forall_mem_nil _ | refine List.forall_mem_cons.mpr ⟨ne_cls N4a (by k_mem) (by k_mem) (by first | (intro e; cases e; done) | (intro e; exact absurd (Value.type.inj e) (by decide))), ?_⟩)) (by repeat (first | exact List.forall_mem_nil _ | refine List.forall_mem_cons.mpr ⟨ne_cls N4a (by k_mem) (by k_mem) (by first | (intro e; cases e; done) | (intro e; exact absurd (Value.type.inj e) (by decide))), ?_⟩)) o1 oq (Nat.le_of_ble_eq_true rfl) R m2 (by omega) ?_
  clear F4a N4a
  intro  kq4 km4 h4 tk4 mm4 F4 N4
  try dsimp only
  repeat' ((fail_if_success (with_reducible show wpAny _ _ (execs (Stmt.Assign [PySem.Expr.Tuple _ _ _] (PySem.Expr.Call (PySem.Expr.Attribute _ _ _) _ _ _) _ :: _) _) _ _ _)); (first | ((first | (k_here; (with_reducible show wpAny _ _ (assign (Expr.Tuple _ _ _) _ (Value.ref _)) _ _ _); k_dflt (refine unpackM (by k_asm) (by k_asm) (by k_asm) (by k_mem) (by exact rfl) (by exact rfl) (by exact rfl) ?_); intro h' F' N'; (try k_sweep)) | (k_here; (with_reducible show wpAny _ _ (call (Value.ref 196) _) _ _ _); k_dflt (refine flm_fm (by k_asm) (by k_asm) (by k_asm) (by k_asm) (by k_asm) (by k_asm) (by k_mem) (by k_mem) (by exact rfl) (by k_asm) ?_); intro x' dx' u4' u5' u6' h' tk' F' N' l1; (try k_lt l1); (try k_sweep)) | (k_here; (with_reducible show wpAny _ _ (call (Value.builtin "len") _) _ _ _); k_dflt (refine len_base (by k_asm) (by k_asm) (by k_asm) (by k_asm) ?_); intro t') | walk1); all_goals (try dsimp only); all_goals (try ((with_reducible refine wp_tok ?_); intro tk))) | (dsimp only; (first | (k_here; (with_reducible show wpAny _ _ (assign (Expr.Tuple _ _ _) _ (Value.ref _)) _ _ _); k_dflt (refine unpackM (by k_asm) (by k_asm) (by k_asm) (by k_mem) (by exact rfl) (by exact rfl) (by exact rfl) ?_); intro h' F' N'; (try k_sweep)) | (k_here; (with_reducible show wpAny _ _ (call (Value.ref 196) _) _ _ _); k_dflt (refine flm_fm (by k_asm) (by k_asm) (by k_asm) (by k_asm) (by k_asm) (by k_asm) (by k_mem) (by k_mem) (by exact rfl) (by k_asm) ?_); intro x' dx' u4' u5' u6' h' tk' F' N' l1; (try k_lt l1); (try k_sweep)) | (k_here; (with_reducible show wpAny _ _ (call (Value.builtin "len") _) _ _ _); k_dflt (refine len_base (by k_asm) (by k_asm) (by k_asm) (by k_asm) ?_); intro t') | walk1))))
  try dsimp only
  rename News g L _ _ => N9
  have n_x2 : @Ne Nat x2 ma := ne_cls N9 (by k_mem) (by k_mem) (by first | (intro e; cases e; done) | (intro e; exact absurd (Value.type.inj e) (by decide)))
  have n_x3 : @Ne Nat x3 ma := ne_cls N9 (by k_mem) (by k_mem) (by first | (intro e; cases e; done) | (intro e; exact absurd (Value.type.inj e) (by decide)))
  have n_M : @Ne Nat M ma := ne_cls N9 (by k_mem) (by k_mem) (by first | (intro e; cases e; done) | (intro e; exact absurd (Value.type.inj e) (by decide)))
  have n_dM : @Ne Nat dM ma := ne_cls N9 (by k_mem) (by k_mem) (by first | (intro e; cases e; done) | (intro e; exact absurd (Value.type.inj e) (by decide)))
  refine' sort2_dn ?u ?X ?F ?N ?U ?e ?x ?y ?n ?_
  (case u => exact Nat.le_of_ble_eq_true rfl); (case X => k_asm); (case F => k_asm); (case N => k_asm); (case U => k_updF); (case e => exact rfl); (case x => k_mem); (case y => k_mem); (case n => omega)
  intro h' c' F' N'
  try dsimp only at N' ⊢
  have N8 : News g L h' ((ma, listOf #[.ref x3, .ref x2] c') :: (x3, mObj dx3 (.int i1 p3a) (.int j1 p3b) (.int k1 p3c)) :: (x2, mObj dx2 (.int i0 p2a) (.int j0 p2b) (.int k0 p2c)) :: (M, instObj 242 dM) :: (dM, flmD w.params t la lb .none vop D S1 vbp) :: []) := news_sub N' (by repeat (first | exact List.forall_mem_nil _ | refine List.forall_mem_cons.mpr ⟨by k_mem, ?_⟩))
  refine' gmb_tail2 X T B (fr_over (S := gS M (.int as.length _) (.int bs.length _) _) F' (by repeat (first | exact List.forall_mem_nil _ | refine List.forall_mem_cons.mpr ⟨rfl, ?_⟩))) N8 ?_ ?_ ?_ ?_ ?_ ?_ ?_ ?_ ?_ ?_
  all_goals first | omega | exact k
set_option maxHeartbeats 4000000 in
theorem gmbD {w : World} {e1 : Env} {s : Shared} {g base : Heap} {outer : List Env} {L M dM la lb D S1 : Addr} {mg mb : Str → Option Value} {mean : ExcName → Option Value} {t : Nat → Tok} {vop vbp : Value} {Q : Flow → Shared → Prop} {va vb : List Value} {as bs : List Int}
    (X : (K w.params).In g) (T : Top qv (looseW qv loose) mean mg mb g) (B : Below (callerA.deeper e1) base outer g)
    (F : Fr g L s.heap (fun y => List.lookup y [(Str.ofString "self", Value.ref M)].reverse))
    (N : News g L s.heap [(M, instObj 242 dM), (dM, flmD w.params t la lb .none vop D S1 vbp)]) (o1 : @LT.lt Nat _ dM M)
    (hla : g.IsList la va.toArray) (hva : IntsAre va as) (hlb : g.IsList lb vb.toArray) (hvb : IntsAre vb bs) (ral : (as.length : Int) < 100000) (rbl : (bs.length : Int) < 100000)
    (R : Ready w g M dM t la lb .none vop D S1 vbp as bs)
    {i0 j0 k0 i1 j1 k1 i2 j2 : Int} (m0 : FM as bs 0 as.length 0 bs.length i0 j0 k0) (m1 : FM as bs 0 i0 0 j0 i1 j1 k1) (m2 : FM as bs (i1 + k1) i0 (j1 + k1) j0 i2 j2 0)
    (q0 : 0 < k0) (q1 : 0 < i0) (q2 : 0 < j0) (q3 : ¬ (i0 + k0 < as.length)) (q4 : 0 < k1) (q5 : i1 = 0) (q5' : j1 = 0) (q6 : i1 + k1 < i0) (q7 : j1 + k1 < j0)
    (k : ∀ S x0 d0 x1 d1 x2 d2 c h' tk m' p0 p1 p2 p3 p4 p5 p6 p7 p8, Fr g L h' m' → News g L h' [(S, listOf #[.ref x0, .ref x1, .ref x2] c), (x0, mObj d0 (.int 0 p0) (.int 0 p1) (.int (0 + k1) p2)), (x1, mObj d1 (.int i0 p3) (.int j0 p4) (.int k0 p5)), (x2, mObj d2 (.int as.length p6) (.int bs.length p7) (.int 0 p8)), (M, instObj 242 dM), (dM, flmD w.params t la lb (.ref S) vop D S1 vbp)] → @LT.lt Nat _ dM S → @LT.lt Nat _ S x0 → @LT.lt Nat _ S x1 → @LT.lt Nat _ S x2 → Q (.ret (.ref S)) { s with heap := h', toks := tk }) :
    wpAny (model pw w) ((callerA.deeper e1).deeper (envG L)) (execs B203 (envG L)) Q (fun _ _ => False) s := by
  rw [show B203 = QPre ++ B203.drop 5 from (List.take_append_drop 5 B203).symm]
  refine execs_app (gmb_pre (base := base) (outer := outer) X T F N hla hva hlb hvb ral rbl ?_)
  intro ma qa tq h1 tk1 mm1 ta tb t0 t1 t2 t3 F1 N1 oq od
  obtain ⟨hp, gn, dr, tk0, os⟩ := s
  dsimp only at F N k F1 N1 ⊢
  clear F N
  conv in (B203.drop 5) => whnf
  repeat' ((fail_if_success (with_reducible show wpAny _ _ (execs (Stmt.Assign [PySem.Expr.Tuple _ _ _] (PySem.Expr.Call (PySem.Expr.Attribute _ _ _) _ _ _) _ :: _) _) _ _ _)); (first | ((first | (k_here; (with_reducible show wpAny _ _ (assign (Expr.Tuple _ _ _) _ (Value.ref _)) _ _ _); k_dflt (refine unpackM (by k_asm) (by k_asm) (by k_asm) (by k_mem) (by exact rfl) (by exact rfl) (by exact rfl) ?_); intro h' F' N'; (try k_sweep)) | (k_here; (with_reducible show wpAny _ _ (call (Value.ref 196) _) _ _ _); k_dflt (refine flm_fm (by k_asm) (by k_asm) (by k_asm) (by k_asm) (by k_asm) (by k_asm) (by k_mem) (by k_mem) (by exact rfl) (by k_asm) ?_); intro x' dx' u4' u5' u6' h' tk' F' N' l1; (try k_lt l1); (try k_sweep)) | (k_here; (with_reducible show wpAny _ _ (call (Value.builtin "len") _) _ _ _); k_dflt (refine len_base (by k_asm) (by k_asm) (by k_asm) (by k_asm) ?_); intro t') | walk1); all_goals (try dsimp only); all_goals (try ((with_reducible refine wp_tok ?_); intro tk))) | (dsimp only; (first | (k_here; (with_reducible show wpAny _ _ (assign (Expr.Tuple _ _ _) _ (Value.ref _)) _ _ _); k_dflt (refine unpackM (by k_asm) (by k_asm) (by k_asm) (by k_mem) (by exact rfl) (by exact rfl) (by exact rfl) ?_); intro h' F' N'; (try k_sweep)) | (k_here; (with_reducible show wpAny _ _ (call (Value.ref 196) _) _ _ _); k_dflt (refine flm_fm (by k_asm) (by k_asm) (by k_asm) (by k_asm) (by k_asm) (by k_asm) (by k_mem) (by k_mem) (by exact rfl) (by k_asm) ?_); intro x' dx' u4' u5' u6' h' tk' F' N' l1; (try k_lt l1); (try k_sweep)) | (k_here; (with_reducible show wpAny _ _ (call (Value.builtin "len") _) _ _ _); k_dflt (refine len_base (by k_asm) (by k_asm) (by k_asm) (by k_asm) ?_); intro t') | walk1))))
  rename Fr g L _ _ => F2a
  rename News g L _ _ => N2a
  refine q_left (va := va) (vb := vb) (ma := ma) (qa := qa) (tq := tq) (rest := []) (marr := #[]) X T B F2a (news_sub N2a (by repeat (first | exact List.forall_mem_nil _ | refine List.forall_mem_cons.mpr ⟨by k_mem, ?_⟩))) (by repeat (first | exact List.forall_mem_nil _ | refine List.forall_mem_cons.mpr ⟨ne_cls N2a (by k_mem) (by k_mem) (by first | (intro e; cases e; done) | (intro e; exact absurd (Value.type.inj e) (by decide))), ?_⟩)) (by repeat (first | exact List.forall_mem_nil _ | refine List.forall_mem_cons.mpr ⟨ne_cls N2a (by k_mem) (by k_mem) (by first | (intro e; cases e; done) | (intro e; exact absurd (Value.type.inj e) (by decide))), ?_⟩)) o1 oq (Nat.le_of_ble_eq_true rfl) R m0 (by omega) (by omega) (by omega) (by omega) ?_
  clear F2a N2a
  intro tl2 v2a v2b v2c v2d x2 dx2 p2a p2b p2c kq2 km2 h2 tk2 mm2 F2 N2 ox2
  try dsimp only
  repeat' ((fail_if_success (with_reducible show wpAny _ _ (execs (Stmt.Assign [PySem.Expr.Tuple _ _ _] (PySem.Expr.Call (PySem.Expr.Attribute _ _ _) _ _ _) _ :: _) _) _ _ _)); (first | ((first | (k_here; (with_reducible show wpAny _ _ (assign (Expr.Tuple _ _ _) _ (Value.ref _)) _ _ _); k_dflt (refine unpackM (by k_asm) (by k_asm) (by k_asm) (by k_mem) (by exact rfl) (by exact rfl) (by exact rfl) ?_); intro h' F' N'; (try k_sweep)) | (k_here; (with_reducible show wpAny _ _ (call (Value.ref 196) _) _ _ _); k_dflt (refine flm_fm (by k_asm) (by k_asm) (by k_asm) (by k_asm) (by k_asm) (by k_asm) (by k_mem) (by k_mem) (by exact rfl) (by k_asm) ?_); intro x' dx' u4' u5' u6' h' tk' F' N' l1; (try k_lt l1); (try k_sweep)) | (k_here; (with_reducible show wpAny _ _ (call (Value.builtin "len") _) _ _ _); k_dflt (refine len_base (by k_asm) (by k_asm) (by k_asm) (by k_asm) ?_); intro t') | walk1); all_goals (try dsimp only); all_goals (try ((with_reducible refine wp_tok ?_); intro tk))) | (dsimp only; (first | (k_here; (with_reducible show wpAny _ _ (assign (Expr.Tuple _ _ _) _ (Value.ref _)) _ _ _); k_dflt (refine unpackM (by k_asm) (by k_asm) (by k_asm) (by k_mem) (by exact rfl) (by exact rfl) (by exact rfl) ?_); intro h' F' N'; (try k_sweep)) | (k_here; (with_reducible show wpAny _ _ (call (Value.ref 196) _) _ _ _); k_dflt (refine flm_fm (by k_asm) (by k_asm) (by k_asm) (by k_asm) (by k_asm) (by k_asm) (by k_mem) (by k_mem) (by exact rfl) (by k_asm) ?_); intro x' dx' u4' u5' u6' h' tk' F' N' l1; (try k_lt l1); (try k_sweep)) | (k_here; (with_reducible show wpAny _ _ (call (Value.builtin "len") _) _ _ _); k_dflt (refine len_base (by k_asm) (by k_asm) (by k_asm) (by k_asm) ?_); intro t') | walk1))))
  rename Fr g L _ _ => F3a
  rename News g L _ _ => N3a
  refine q_right (va := va) (vb := vb) (ma := ma) (qa := qa) (tq := tl2) (rest := (x2, mObj dx2 (.int i0 p2a) (.int j0 p2b) (.int k0 p2c)) :: []) (marr := (#[].push (.ref x2))) X T B F3a (news_sub N3a (by repeat (first | exact List.forall_mem_nil _ | refine List.forall_mem_cons.mpr ⟨by k_mem, ?_⟩))) (by repeat (first | exact List.forall_mem_nil _ | refine List.forall_mem_cons.mpr ⟨ne_cls N3a (by k_mem) (by k_mem) (by first | (intro e; cases e; done) | (intro e; exact absurd (Value.type.inj e) (by decide))), ?_⟩)) (by repeat (first | exact List.forall_mem_nil _ | refine List.forall_mem_cons.mpr ⟨ne_cls N3a (by k_mem) (by k_mem) (by first | (intro e; cases e; done) | (intro e; exact absurd (Value.type.inj e) (by decide))), ?_⟩)) o1 oq (Nat.le_of_ble_eq_true rfl) R m1 (by omega) (by omega) (by omega) (by omega) ?_
  clear F3a N3a
  intro tr3 w3a w3b w3c w3d x3 dx3 p3a p3b p3c kq3 km3 h3 tk3 mm3 F3 N3 ox3
  try dsimp only
  repeat' ((fail_if_success (with_reducible show wpAny _ _ (execs (Stmt.Assign [PySem.Expr.Tuple _ _ _] (PySem.Expr.Call (PySem.Expr.Attribute _ _ _) _ _ _) _ :: _) _) _ _ _)); (first | ((first | (k_here; (with_reducible show wpAny _ _ (assign (Expr.Tuple _ _ _) _ (Value.ref _)) _ _ _); k_dflt (refine unpackM (by k_asm) (by k_asm) (by k_asm) (by k_mem) (by exact rfl) (by exact rfl) (by exact rfl) ?_); intro h' F' N'; (try k_sweep)) | (k_here; (with_reducible show wpAny _ _ (call (Value.ref 196) _) _ _ _); k_dflt (refine flm_fm (by k_asm) (by k_asm) (by k_asm) (by k_asm) (by k_asm) (by k_asm) (by k_mem) (by k_mem) (by exact rfl) (by k_asm) ?_); intro x' dx' u4' u5' u6' h' tk' F' N' l1; (try k_lt l1); (try k_sweep)) | (k_here; (with_reducible show wpAny _ _ (call (Value.builtin "len") _) _ _ _); k_dflt (refine len_base (by k_asm) (by k_asm) (by k_asm) (by k_asm) ?_); intro t') | walk1); all_goals (try dsimp only); all_goals (try ((with_reducible refine wp_tok ?_); intro tk))) | (dsimp only; (first | (k_here; (with_reducible show wpAny _ _ (assign (Expr.Tuple _ _ _) _ (Value.ref _)) _ _ _); k_dflt (refine unpackM (by k_asm) (by k_asm) (by k_asm) (by k_mem) (by exact rfl) (by exact rfl) (by exact rfl) ?_); intro h' F' N'; (try k_sweep)) | (k_here; (with_reducible show wpAny _ _ (call (Value.ref 196) _) _ _ _); k_dflt (refine flm_fm (by k_asm) (by k_asm) (by k_asm) (by k_asm) (by k_asm) (by k_asm) (by k_mem) (by k_mem) (by exact rfl) (by k_asm) ?_); intro x' dx' u4' u5' u6' h' tk' F' N' l1; (try k_lt l1); (try k_sweep)) | (k_here; (with_reducible show wpAny _ _ (call (Value.builtin "len") _) _ _ _); k_dflt (refine len_base (by k_asm) (by k_asm) (by k_asm) (by k_asm) ?_); intro t') | walk1))))
  rename Fr g L _ _ => F4a
  rename News g L _ _ => N4a
  refine q_zero (va := va) (vb := vb) (ma := ma) (qa := qa) (tq := tr3) (rest := (x2, mObj dx2 (.int i0 p2a) (.int j0 p2b) (.int k0 p2c)) :: (x3, mObj dx3 (.int i1 p3a) (.int j1 p3b) (.int k1 p3c)) :: []) (marr := ((#[].push (.ref x2)).push (.ref x3))) X T B F4a (news_sub N4a (by repeat (first | exact List.forall_mem_nil _ | refine List.forall_mem_cons.mpr ⟨by k_mem, ?_⟩))) (by repeat (first | exact List.forall_mem_nil _ | refine List.forall_mem_cons.mpr ⟨ne_cls N4a (by k_mem) (by k_mem) (by first | (intro e; cases e; done) | (intro e; exact absurd (Value.type.inj e) (by decide))), ?_⟩)) (by repeat (first | exact List.forall_mem_nil _ | refine List.forall_mem_cons.mpr ⟨ne_cls N4a (by k_mem) (by k_mem) (by first | (intro e; cases e; done) | (intro e; exact absurd (Value.type.inj e) (by decide))), ?_⟩)) o1 oq (Nat.le_of_ble_eq_true rfl) R m2 (by omega) ?_
  clear F4a N4a
  intro  kq4 km4 h4 tk4 mm4 F4 N4
  try dsimp only
  repeat' ((fail_if_success (with_reducible show wpAny _ _ (execs (Stmt.Assign [PySem.Expr.Tuple _ _ _] (PySem.Expr.Call (PySem.Expr.Attribute _ _ _) _ _ _) _ :: _) _) _ _ _)); (first | ((first | (k_here; (with_reducible show wpAny _ _ (assign (Expr.Tuple _ _ _) _ (Value.ref _)) _ _ _); k_dflt (refine unpackM (by k_asm) (by k_asm) (by k_asm) (by k_mem) (by exact rfl) (by exact rfl) (by exact rfl) ?_); intro h' F' N'; (try k_sweep)) | (k_here; (with_reducible show wpAny _ _ (call (Value.ref 196) _) _ _ _); k_dflt (refine flm_fm (by k_asm) (by k_asm) (by k_asm) (by k_asm) (by k_asm) (by k_asm) (by k_mem) (by k_mem) (by exact rfl) (by k_asm) ?_); intro x' dx' u4' u5' u6' h' tk' F' N' l1; (try k_lt l1); (try k_sweep)) | (k_here; (with_reducible show wpAny _ _ (call (Value.builtin "len") _) _ _ _); k_dflt (refine len_base (by k_asm) (by k_asm) (by k_asm) (by k_asm) ?_); intro t') | walk1); all_goals (try dsimp only); all_goals (try ((with_reducible refine wp_tok ?_); intro tk))) | (dsimp only; (first | (k_here; (with_reducible show wpAny _ _ (assign (Expr.Tuple _ _ _) _ (Value.ref _)) _ _ _); k_dflt (refine unpackM (by k_asm) (by k_asm) (by k_asm) (by k_mem) (by exact rfl) (by exact rfl) (by exact rfl) ?_); intro h' F' N'; (try k_sweep)) | (k_here; (with_reducible show wpAny _ _ (call (Value.ref 196) _) _ _ _); k_dflt (refine flm_fm (by k_asm) (by k_asm) (by k_asm) (by k_asm) (by k_asm) (by k_asm) (by k_mem) (by k_mem) (by exact rfl) (by k_asm) ?_); intro x' dx' u4' u5' u6' h' tk' F' N' l1; (try k_lt l1); (try k_sweep)) | (k_here; (with_reducible show wpAny _ _ (call (Value.builtin "len") _) _ _ _); k_dflt (refine len_base (by k_asm) (by k_asm) (by k_asm) (by k_asm) ?_); intro t') | walk1))))
  try dsimp only
  rename News g L _ _ => N9
  have n_x2 : @Ne Nat x2 ma := ne_cls N9 (by k_mem) (by k_mem) (by first | (intro e; cases e; done) | (intro e; exact absurd (Value.type.inj e) (by decide)))
  have n_x3 : @Ne Nat x3 ma := ne_cls N9 (by k_mem) (by k_mem) (by first | (intro e; cases e; done) | (intro e; exact absurd (Value.type.inj e) (by decide)))
  have n_M : @Ne Nat M ma := ne_cls N9 (by k_mem) (by k_mem) (by first | (intro e; cases e; done) | (intro e; exact absurd (Value.type.inj e) (by decide)))
  have n_dM : @Ne Nat dM ma := ne_cls N9 (by k_mem) (by k_mem) (by first | (intro e; cases e; done) | (intro e; exact absurd (Value.type.inj e) (by decide)))
  refine' sort2_dn ?u ?X ?F ?N ?U ?e ?x ?y ?n ?_
  (case u => exact Nat.le_of_ble_eq_true rfl); (case X => k_asm); (case F => k_asm); (case N => k_asm); (case U => k_updF); (case e => exact rfl); (case x => k_mem); (case y => k_mem); (case n => omega)
  intro h' c' F' N'
  try dsimp only at N' ⊢
  have N8 : News g L h' ((ma, listOf #[.ref x3, .ref x2] c') :: (x3, mObj dx3 (.int i1 p3a) (.int j1 p3b) (.int k1 p3c)) :: (x2, mObj dx2 (.int i0 p2a) (.int j0 p2b) (.int k0 p2c)) :: (M, instObj 242 dM) :: (dM, flmD w.params t la lb .none vop D S1 vbp) :: []) := news_sub N' (by repeat (first | exact List.forall_mem_nil _ | refine List.forall_mem_cons.mpr ⟨by k_mem, ?_⟩))
  refine' gmb_tail2 X T B (fr_over (S := gS M (.int as.length _) (.int bs.length _) _) F' (by repeat (first | exact List.forall_mem_nil _ | refine List.forall_mem_cons.mpr ⟨rfl, ?_⟩))) N8 ?_ ?_ ?_ ?_ ?_ ?_ ?_ ?_ ?_ ?_
  all_goals first | omega | exact k
end Mine
end
section
open PySem PySem.W PySem.Calls PyProof.Rows PySem.SeqAt
set_option maxRecDepth 100000
namespace Mine
/-- blocks, tuples and opcodes in the ledger -/
inductive MsL : List (Addr × Obj) → List Value → List (Int × Int × Int) → Prop
  | nil : MsL [] [] []
  | cons {x d : Addr} {a b c : Int} {p q r : Tok} {xs vs bl} (h : MsL xs vs bl) : MsL ((x, mObj d (.int a p) (.int b q) (.int c r)) :: xs) (.ref x :: vs) ((a, b, c) :: bl)
inductive TsL : List (Addr × Obj) → List Value → List (Int × Int × Int) → Prop
  | nil : TsL [] [] []
  | cons {x : Addr} {a b c : Int} {p q r : Tok} {xs vs bl} (h : TsL xs vs bl) : TsL ((x, tup3 (.int a p) (.int b q) (.int c r)) :: xs) (.ref x :: vs) ((a, b, c) :: bl)
inductive OsL : List (Addr × Obj) → List Value → List (String × Int × Int × Int × Int) → Prop
  | nil : OsL [] [] []
  | cons {y : Addr} {o : Obj} {s : String} {a b c d : Int} {ys vs ol} (po : Op o s a b c d) (h : OsL ys vs ol) : OsL ((y, o) :: ys) (.ref y :: vs) ((s, a, b, c, d) :: ol)
section
variable {w : World} {A : Around} {E : Value → Shared → Prop} {s : Shared} {h₀ : Heap} {L : Addr} {m : Str → Option Value} {news : List (Addr × Obj)} {l1 l2 : Addr} {c1 c2 : Nat} {Q : Value → Shared → Prop}
theorem ms_len {xs ts vs ws bl} (h : MsL xs vs bl) (g : TsL ts ws bl) : vs.length = ws.length := by
  induction h generalizing ts ws with
  | nil => cases g; rfl
  | cons _ ih => cases g with | cons g => simp [ih g]
theorem os_len {xs ts vs ws ol} (h : OsL xs vs ol) (g : OsL ts ws ol) : vs.length = ws.length := by
  induction h generalizing ts ws with
  | nil => cases g; rfl
  | cons _ _ ih => cases g with | cons _ g => simp [ih g]
theorem ms_eq {P : Params} {xs ts vs ws bl} (X : (K P).In s.heap) (N : News h₀ L s.heap news) (h : MsL xs vs bl) (g : TsL ts ws bl) (hx : ∀ p ∈ xs, p ∈ news) (ht : ∀ p ∈ ts, p ∈ news) (hu : A.units < cLine) :
    ∀ j (a : j < vs.length) (b : j < ws.length), EqAt A s vs[j] ws[j] true := by
  induction h generalizing ts ws with
  | nil => intro j a; simp at a
  | cons _ ih =>
    cases g with
    | cons g =>
      intro j a b
      cases j with
      | zero => exact eqAt_match X (N _ (hx _ (.head _))).1 (N _ (ht _ (.head _))).1 hu
      | succ j => exact ih g (fun p hp => hx p (.tail _ hp)) (fun p hp => ht p (.tail _ hp)) j (Nat.lt_of_succ_lt_succ a) (Nat.lt_of_succ_lt_succ b)
theorem os_eq {xs ts vs ws ol} (N : News h₀ L s.heap news) (h : OsL xs vs ol) (g : OsL ts ws ol) (hx : ∀ p ∈ xs, p ∈ news) (ht : ∀ p ∈ ts, p ∈ news) (hu : A.units < cLine) :
    ∀ j (a : j < vs.length) (b : j < ws.length), EqAt A s vs[j] ws[j] true := by
  induction h generalizing ts ws with
  | nil => intro j a; simp at a
  | cons po _ ih =>
    cases g with
    | cons po' g =>
      intro j a b
      cases j with
      | zero => exact eqAt_op (N _ (hx _ (.head _))).1 (N _ (ht _ (.head _))).1 po po' rfl rfl rfl rfl hu
      | succ j => exact ih g (fun p hp => hx p (.tail _ hp)) (fun p hp => ht p (.tail _ hp)) j (Nat.lt_of_succ_lt_succ a) (Nat.lt_of_succ_lt_succ b)
theorem ne_blkG {xs ts : List (Addr × Obj)} {vs ws : List Value} {bl : List (Int × Int × Int)} (X : (K w.params).In h₀) (F : Fr h₀ L s.heap m) (N : News h₀ L s.heap news) (h1 : (l1, listOf vs.toArray c1) ∈ news) (h2 : (l2, listOf ws.toArray c2) ∈ news) (h : MsL xs vs bl) (g : TsL ts ws bl)
    (hx : ∀ p ∈ xs, p ∈ news) (ht : ∀ p ∈ ts, p ∈ news) (hu : A.in1.units < cLine) (hu' : A.units < cLine) (hq : Q (.bool false) s) : wpAny (model pw w) A (compareOp .NotEq (.ref l1) (.ref l2)) Q E s :=
  ne_lists ⟨_, (N _ h1).1, rfl, c1, rfl⟩ ⟨_, (N _ h2).1, rfl, c2, rfl⟩ (ms_len h g) hu' (ms_eq (X.keeps F.keep) N h g hx ht hu) hq
theorem ne_opsG {xs ts : List (Addr × Obj)} {vs ws : List Value} {ol : List (String × Int × Int × Int × Int)} (N : News h₀ L s.heap news) (h1 : (l1, listOf vs.toArray c1) ∈ news) (h2 : (l2, listOf ws.toArray c2) ∈ news) (h : OsL xs vs ol) (g : OsL ts ws ol)
    (hx : ∀ p ∈ xs, p ∈ news) (ht : ∀ p ∈ ts, p ∈ news) (hu : A.in1.units < cLine) (hu' : A.units < cLine) (hq : Q (.bool false) s) : wpAny (model pw w) A (compareOp .NotEq (.ref l1) (.ref l2)) Q E s :=
  ne_lists ⟨_, (N _ h1).1, rfl, c1, rfl⟩ ⟨_, (N _ h2).1, rfl, c2, rfl⟩ (os_len h g) hu' (os_eq N h g hx ht hu) hq
end
/-- get_matching_blocks answers bl on as, bs -/
structure GmbB (w : World) (as bs : List Int) (bl : List (Int × Int × Int)) : Prop where
  run : ∀ {e1 : Env} {s : Shared} {g base : Heap} {outer : List Env} {L M dM la lb D S1 : Addr} {mg mb : Str → Option Value} {mean : ExcName → Option Value} {t : Nat → Tok} {vop vbp : Value} {Q : Flow → Shared → Prop} {va vb : List Value},
    (K w.params).In g → Top qv (looseW qv loose) mean mg mb g → Below (callerA.deeper e1) base outer g → Fr g L s.heap (fun y => List.lookup y [(Str.ofString "self", Value.ref M)].reverse) → News g L s.heap [(M, instObj 242 dM), (dM, flmD w.params t la lb .none vop D S1 vbp)] → @LT.lt Nat _ dM M →
    g.IsList la va.toArray → IntsAre va as → g.IsList lb vb.toArray → IntsAre vb bs → (as.length : Int) < 100000 → (bs.length : Int) < 100000 → Ready w g M dM t la lb .none vop D S1 vbp as bs →
    (∀ S xs vs c h' tk m', Fr g L h' m' → MsL xs vs bl → News g L h' ((S, listOf (List.toArray vs) c) :: (M, instObj 242 dM) :: (dM, flmD w.params t la lb (.ref S) vop D S1 vbp) :: xs) → @LT.lt Nat _ dM S → (∀ p ∈ xs, @LT.lt Nat _ S p.1) → Q (.ret (.ref S)) { s with heap := h', toks := tk }) →
    wpAny (model pw w) ((callerA.deeper e1).deeper (envG L)) (execs B203 (envG L)) Q (fun _ _ => False) s
/-- get_opcodes answers ol where the blocks bl are at hand -/
structure OpcB (w : World) (bl : List (Int × Int × Int)) (ol : List (String × Int × Int × Int × Int)) : Prop where
  run : ∀ {e1 : Env} {s : Shared} {g base : Heap} {outer : List Env} {L M dM la lb D S1 S : Addr} {mg mb : Str → Option Value} {mean : ExcName → Option Value} {t : Nat → Tok} {vbp : Value} {Q : Flow → Shared → Prop} {c : Nat} {xs : List (Addr × Obj)} {vs : List Value},
    (K w.params).In g → Top qv (looseW qv loose) mean mg mb g → Below (callerA.deeper e1) base outer g → Fr g L s.heap (fun y => List.lookup y [(Str.ofString "self", Value.ref M)].reverse) → MsL xs vs bl → News g L s.heap ((M, instObj 242 dM) :: (dM, flmD w.params t la lb (.ref S) .none D S1 vbp) :: (S, listOf vs.toArray c) :: xs) → @LT.lt Nat _ dM M → @LT.lt Nat _ dM S → (∀ p ∈ xs, @LT.lt Nat _ S p.1) →
    (∀ l ys vs' c' h' tk m', Fr g L h' m' → OsL ys vs' ol → News g L h' ((l, listOf (List.toArray vs') c') :: (M, instObj 242 dM) :: (dM, flmD w.params t la lb (.ref S) (.ref l) D S1 vbp) :: (S, listOf vs.toArray c) :: (xs ++ ys)) → Q (.ret (.ref l)) { s with heap := h', toks := tk }) →
    wpAny (model pw w) ((callerA.deeper e1).deeper (envO L)) (execs B210 (envO L)) Q (fun _ _ => False) s
section
variable {w : World} {E : Value → Shared → Prop} {s : Shared} {base h₀ : Heap} {outer : List Env} {L a : Addr} {m mg mb : Str → Option Value} {cn : Str} {cs : Scope} {ccd : Value} {mean : ExcName → Option Value} {M dM la lb D J : Addr} {t : Nat → Tok} {vbp : Value} {Q : Value → Shared → Prop} {news : List (Addr × Obj)} {gg : Obj → List (Addr × Obj)}
set_option maxHeartbeats 1000000 in
theorem gmbG (X : (K w.params).In h₀) (T : Top qv (looseW qv loose) mean mg mb h₀) (B : Below callerA base outer h₀) (F : Fr h₀ L s.heap m) (hcs : cs.kind = .function) (o1 : @LT.lt Nat _ dM M)
    (N : News h₀ L s.heap news) (hM : (M, instObj 242 dM) ∈ news) (U : UpdF dM (flmD w.params t la lb .none .none D J vbp) news gg)
    {as bs : List Int} {bl : List (Int × Int × Int)} (R : Ready w s.heap M dM t la lb .none .none D J vbp as bs) (G : GmbB w as bs bl)
    (k : ∀ S xs vs c h' tk, Fr h₀ L h' m → MsL xs vs bl → News h₀ L h' (((S, listOf (List.toArray vs) c) :: gg (flmD w.params t la lb (.ref S) .none D J vbp)) ++ xs) → @LT.lt Nat _ dM S → (∀ p ∈ xs, @LT.lt Nat _ S p.1) → Q (.ref S) { s with heap := h', toks := tk }) :
    wpAny (model pw w) (callerA.deeper (envOf cn cs L a ccd)) (call (.ref 203) [.ref M]) Q E s := by
  have hdM := upd_in U
  have hh : ∀ p ∈ [(M, instObj 242 dM), (dM, flmD w.params t la lb .none .none D J vbp)], p ∈ news := List.forall_mem_cons.mpr ⟨hM, List.forall_mem_cons.mpr ⟨hdM, List.forall_mem_nil _⟩⟩
  have N2 : News h₀ L s.heap [(M, instObj 242 dM), (dM, flmD w.params t la lb .none .none D J vbp)] := news_sub N hh
  refine wpAny_call ?_
  refine code_defR (env := envOf cn cs L a ccd) (binds := [(Str.ofString "self", .ref M)]) B F X N2 T (by show Option.map _ callerA.frames = _; rw [B.stack]; rfl) rfl hcs (by k_is) (by k_is) (by simp only [depth_deeper, depth_caller]; decide) (BindsTo.of_eq rfl) (locs rfl) ?_ rfl rfl rfl (by decide)
  intro g' L' h' FG' F' N' B' X' T' hg hlt
  have R' := R.base fun b n1 n2 o e => hg b o e (by simp [n1, n2])
  obtain ⟨va, hla, hva⟩ := R'.la_
  obtain ⟨vb, hlb, hvb⟩ := R'.lb_
  refine wpAny_mono (G.run (s := { s with heap := h', toks := _ }) X' T' B' F' N' o1 hla hva hlb hvb R.alen R.blen R' (Q := fun fl s' => LeaveK h₀ L m g' (fun r s' => match r with | .ok (.ret v) => Q v s' | .ok _ => False | .error e => E e s') (match fl with | .ret v => v | _ => .none) s') ?_) (fun _ _ e => e) (fun _ _ e => e.elim)
  intro S xs vs c h2 tk m' F2 ms N3 l9 l0
  refine leaveK_ F2 N3 fun F5 N5 => ?_
  have Nb := hand_back (o' := flmD w.params t la lb (.ref S) .none D J vbp) (M := M) N hh U (fun p hp hne => by
    simp only [List.mem_cons, List.not_mem_nil, or_false] at hp
    rcases hp with rfl | rfl
    · intro q hq; rw [List.mem_singleton.mp hq]; exact N5 _ (.tail _ (.head _))
    · exact absurd rfl hne) (fun p hp => by rw [List.mem_singleton.mp hp]; exact N5 _ (.tail _ (.tail _ (.head _)))) (fun p hp => by
      have z := N p (restOf_mem hp)
      exact ⟨F2.keep _ _ (hg p.1 p.2 z.1 (restOf_off hp)), z.2⟩)
  refine k S xs vs c h2 tk F5 ms (fun p hp => ?_) l9 l0
  rcases List.mem_append.mp hp with hp | hp
  · rcases List.mem_cons.mp hp with rfl | hp
    · exact N5 _ (.head _)
    · exact Nb p hp
  · exact N5 p (.tail _ (.tail _ (.tail _ hp)))
set_option maxHeartbeats 1000000 in
theorem opcG (X : (K w.params).In h₀) (T : Top qv (looseW qv loose) mean mg mb h₀) (B : Below callerA base outer h₀) (F : Fr h₀ L s.heap m) (hcs : cs.kind = .function) (o1 : @LT.lt Nat _ dM M)
    {S : Addr} {c : Nat} {xs : List (Addr × Obj)} {vs : List Value} {bl : List (Int × Int × Int)} {ol : List (String × Int × Int × Int × Int)}
    (N : News h₀ L s.heap news) (hM : (M, instObj 242 dM) ∈ news) (U : UpdF dM (flmD w.params t la lb (.ref S) .none D J vbp) news gg) (hS : (S, listOf vs.toArray c) ∈ news) (ms : MsL xs vs bl) (hxs : ∀ p ∈ xs, p ∈ news)
    (o2 : @LT.lt Nat _ dM S) (o3 : ∀ p ∈ xs, @LT.lt Nat _ S p.1) (G : OpcB w bl ol)
    (k : ∀ l ys vs' c' h' tk, Fr h₀ L h' m → OsL ys vs' ol → News h₀ L h' (((l, listOf (List.toArray vs') c') :: gg (flmD w.params t la lb (.ref S) (.ref l) D J vbp)) ++ ys) → Q (.ref l) { s with heap := h', toks := tk }) :
    wpAny (model pw w) (callerA.deeper (envOf cn cs L a ccd)) (call (.ref 210) [.ref M]) Q E s := by
  have hdM := upd_in U
  have hh : ∀ p ∈ (M, instObj 242 dM) :: (dM, flmD w.params t la lb (.ref S) .none D J vbp) :: (S, listOf vs.toArray c) :: xs, p ∈ news := List.forall_mem_cons.mpr ⟨hM, List.forall_mem_cons.mpr ⟨hdM, List.forall_mem_cons.mpr ⟨hS, hxs⟩⟩⟩
  have N2 := news_sub N hh
  refine wpAny_call ?_
  refine code_defR (env := envOf cn cs L a ccd) (binds := [(Str.ofString "self", .ref M)]) B F X N2 T (by show Option.map _ callerA.frames = _; rw [B.stack]; rfl) rfl hcs (by k_is) (by k_is) (by simp only [depth_deeper, depth_caller]; decide) (BindsTo.of_eq rfl) (locs rfl) ?_ rfl rfl rfl (by decide)
  intro g' L' h' FG' F' N' B' X' T' hg hlt
  refine wpAny_mono (G.run (s := { s with heap := h', toks := _ }) X' T' B' F' ms N' o1 o2 o3 (Q := fun fl s' => LeaveK h₀ L m g' (fun r s' => match r with | .ok (.ret v) => Q v s' | .ok _ => False | .error e => E e s') (match fl with | .ret v => v | _ => .none) s') ?_) (fun _ _ e => e) (fun _ _ e => e.elim)
  intro l ys vs' c' h2 tk m' F2 os N3
  refine leaveK_ F2 N3 fun F5 N5 => ?_
  have Nb := hand_back (o' := flmD w.params t la lb (.ref S) (.ref l) D J vbp) (M := M) N hh U (fun p hp hne => by
    intro q hq
    rw [List.mem_singleton.mp hq]
    rcases List.mem_cons.mp hp with rfl | hp
    · exact N5 _ (.tail _ (.head _))
    rcases List.mem_cons.mp hp with rfl | hp
    · exact absurd rfl hne
    rcases List.mem_cons.mp hp with rfl | hp
    · exact N5 _ (.tail _ (.tail _ (.tail _ (.head _))))
    · exact N5 _ (.tail _ (.tail _ (.tail _ (.tail _ (List.mem_append_left _ hp)))))) (fun p hp => by rw [List.mem_singleton.mp hp]; exact N5 _ (.tail _ (.tail _ (.head _)))) (fun p hp => by
      have z := N p (restOf_mem hp)
      exact ⟨F2.keep _ _ (hg p.1 p.2 z.1 (restOf_off hp)), z.2⟩)
  refine k l ys vs' c' h2 tk F5 os (fun p hp => ?_)
  rcases List.mem_append.mp hp with hp | hp
  · rcases List.mem_cons.mp hp with rfl | hp
    · exact N5 _ (.head _)
    · exact Nb p hp
  · exact N5 p (.tail _ (.tail _ (.tail _ (.tail _ (List.mem_append_right _ hp)))))
end
end Mine
end
section
open PySem PySem.W PySem.Calls PyProof.Rows
set_option maxRecDepth 100000
namespace Mine
theorem GmbB.cast {w : World} {as bs : List Int} {bl bl' : List (Int × Int × Int)} (h : GmbB w as bs bl) (e : bl = bl') : GmbB w as bs bl' := e ▸ h
theorem OpcB.cast {w : World} {bl bl' : List (Int × Int × Int)} {ol ol' : List (String × Int × Int × Int × Int)} (h : OpcB w bl ol) (e : bl = bl') (e' : ol = ol') : OpcB w bl' ol' := e ▸ e' ▸ h
theorem ms_inv0 {xs : List (Addr × Obj)} {vs : List Value} (h : MsL xs vs []) : xs = [] ∧ vs = [] := by
  cases h; exact ⟨rfl, rfl⟩
theorem ms_inv1 {xs : List (Addr × Obj)} {vs : List Value} {a b c : Int} {bl : List (Int × Int × Int)} (h : MsL xs vs ((a, b, c) :: bl)) : ∃ x d p q r xs' vs', xs = (x, mObj d (.int a p) (.int b q) (.int c r)) :: xs' ∧ vs = .ref x :: vs' ∧ MsL xs' vs' bl := by
  cases h with | cons h => exact ⟨_, _, _, _, _, _, _, rfl, rfl, h⟩
theorem ms_inv3 {xs : List (Addr × Obj)} {vs : List Value} {a0 b0 c0 a1 b1 c1 a2 b2 c2 : Int} (h : MsL xs vs [(a0, b0, c0), (a1, b1, c1), (a2, b2, c2)]) : ∃ x0 d0 p0 q0 r0 x1 d1 p1 q1 r1 x2 d2 p2 q2 r2, xs = [(x0, mObj d0 (.int a0 p0) (.int b0 q0) (.int c0 r0)), (x1, mObj d1 (.int a1 p1) (.int b1 q1) (.int c1 r1)), (x2, mObj d2 (.int a2 p2) (.int b2 q2) (.int c2 r2))] ∧ vs = [.ref x0, .ref x1, .ref x2] := by
  obtain ⟨x0, d0, p0, q0, r0, xs0, vs0, h0x, h0v, h⟩ := ms_inv1 h
  obtain ⟨x1, d1, p1, q1, r1, xs1, vs1, h1x, h1v, h⟩ := ms_inv1 h
  obtain ⟨x2, d2, p2, q2, r2, xs2, vs2, h2x, h2v, h⟩ := ms_inv1 h
  obtain ⟨e1, e2⟩ := ms_inv0 h
  exact ⟨x0, d0, p0, q0, r0, x1, d1, p1, q1, r1, x2, d2, p2, q2, r2, by rw [h0x, h1x, h2x, e1], by rw [h0v, h1v, h2v, e2]⟩
theorem ms_inv4 {xs : List (Addr × Obj)} {vs : List Value} {a0 b0 c0 a1 b1 c1 a2 b2 c2 a3 b3 c3 : Int} (h : MsL xs vs [(a0, b0, c0), (a1, b1, c1), (a2, b2, c2), (a3, b3, c3)]) : ∃ x0 d0 p0 q0 r0 x1 d1 p1 q1 r1 x2 d2 p2 q2 r2 x3 d3 p3 q3 r3, xs = [(x0, mObj d0 (.int a0 p0) (.int b0 q0) (.int c0 r0)), (x1, mObj d1 (.int a1 p1) (.int b1 q1) (.int c1 r1)), (x2, mObj d2 (.int a2 p2) (.int b2 q2) (.int c2 r2)), (x3, mObj d3 (.int a3 p3) (.int b3 q3) (.int c3 r3))] ∧ vs = [.ref x0, .ref x1, .ref x2, .ref x3] := by
  obtain ⟨x0, d0, p0, q0, r0, xs0, vs0, h0x, h0v, h⟩ := ms_inv1 h
  obtain ⟨x1, d1, p1, q1, r1, xs1, vs1, h1x, h1v, h⟩ := ms_inv1 h
  obtain ⟨x2, d2, p2, q2, r2, xs2, vs2, h2x, h2v, h⟩ := ms_inv1 h
  obtain ⟨x3, d3, p3, q3, r3, xs3, vs3, h3x, h3v, h⟩ := ms_inv1 h
  obtain ⟨e1, e2⟩ := ms_inv0 h
  exact ⟨x0, d0, p0, q0, r0, x1, d1, p1, q1, r1, x2, d2, p2, q2, r2, x3, d3, p3, q3, r3, by rw [h0x, h1x, h2x, h3x, e1], by rw [h0v, h1v, h2v, h3v, e2]⟩
theorem gmbA_G {w : World} {as bs : List Int} {i0 j0 k0 i1 j1 k1 i3 j3 : Int} (m0 : FM as bs 0 as.length 0 bs.length i0 j0 k0) (m1 : FM as bs (i0 + k0) as.length (j0 + k0) bs.length i1 j1 k1) (m2 : FM as bs 0 i0 0 j0 0 0 1) (m3 : FM as bs (0 + 1) i0 (0 + 1) j0 i3 j3 0)
    (q0 : 0 < k0) (q1 : 1 < i0) (q2 : 1 < j0) (q3 : i0 + k0 = i1) (q4 : j0 + k0 < j1) (q5 : 0 < k1) (q6 : i1 + k1 < as.length) (q7 : j1 + k1 = bs.length) : GmbB w as bs [(0, 0, 0 + 1), (i0, j0, k0), (i1, j1, k1), ((as.length : Int), (bs.length : Int), 0)] := by
  refine ⟨?_⟩
  intro e1 s g base outer L M dM la lb D S1 mg mb mean t vop vbp Q va vb X T B F N o1 hla hva hlb hvb ral rbl R k
  refine gmbA X T B F N o1 hla hva hlb hvb ral rbl R m0 m1 m2 m3 (by omega) (by omega) (by omega) (by omega) (by omega) (by omega) (by omega) (by omega) (by omega) (by omega) (by omega) (by omega) (by omega) (by omega) (by omega) ?_
  intro S x0 d0 x1 d1 x2 d2 x3 d3 c h' tk m' p0 p1 p2 p3 p4 p5 p6 p7 p8 p9 p10 p11 F' N' l9 l0 l1 l2 l3
  exact k S _ [.ref x0, .ref x1, .ref x2, .ref x3] c h' tk m' F' (.cons (.cons (.cons (.cons .nil)))) (news_sub N' (by repeat (first | exact List.forall_mem_nil _ | refine List.forall_mem_cons.mpr ⟨by k_mem, ?_⟩))) l9 (List.forall_mem_cons.mpr ⟨l0, List.forall_mem_cons.mpr ⟨l1, List.forall_mem_cons.mpr ⟨l2, List.forall_mem_cons.mpr ⟨l3, List.forall_mem_nil _⟩⟩⟩⟩)
theorem gmbB_G {w : World} {as bs : List Int} {i1 j1 k1 i2 j2 : Int} (m0 : FM as bs 0 as.length 0 bs.length 0 0 1) (m1 : FM as bs (0 + 1) as.length (0 + 1) bs.length i1 j1 k1) (m2 : FM as bs (0 + 1) i1 (0 + 1) j1 i2 j2 0)
    (q0 : 0 < k1) (q1 : 1 < i1) (q2 : 1 < j1) (q3 : i1 + k1 < as.length) (q4 : j1 + k1 = bs.length) : GmbB w as bs [(0, 0, 0 + 1), (i1, j1, k1), ((as.length : Int), (bs.length : Int), 0)] := by
  refine ⟨?_⟩
  intro e1 s g base outer L M dM la lb D S1 mg mb mean t vop vbp Q va vb X T B F N o1 hla hva hlb hvb ral rbl R k
  refine gmbB X T B F N o1 hla hva hlb hvb ral rbl R m0 m1 m2 (by omega) (by omega) (by omega) (by omega) (by omega) (by omega) (by omega) (by omega) (by omega) (by omega) ?_
  intro S x0 d0 x1 d1 x2 d2 c h' tk m' p0 p1 p2 p3 p4 p5 p6 p7 p8 F' N' l9 l0 l1 l2
  exact k S _ [.ref x0, .ref x1, .ref x2] c h' tk m' F' (.cons (.cons (.cons .nil))) (news_sub N' (by repeat (first | exact List.forall_mem_nil _ | refine List.forall_mem_cons.mpr ⟨by k_mem, ?_⟩))) l9 (List.forall_mem_cons.mpr ⟨l0, List.forall_mem_cons.mpr ⟨l1, List.forall_mem_cons.mpr ⟨l2, List.forall_mem_nil _⟩⟩⟩)
theorem gmbC_G {w : World} {as bs : List Int} {i0 j0 k0 i2 j2 : Int} (m0 : FM as bs 0 as.length 0 bs.length i0 j0 k0) (m1 : FM as bs 0 i0 0 j0 0 0 1) (m2 : FM as bs (0 + 1) i0 (0 + 1) j0 i2 j2 0)
    (q0 : 0 < k0) (q1 : 1 < i0) (q2 : 1 < j0) (q3 : i0 + k0 < as.length) (q4 : j0 + k0 = bs.length) : GmbB w as bs [(0, 0, 0 + 1), (i0, j0, k0), ((as.length : Int), (bs.length : Int), 0)] := by
  refine ⟨?_⟩
  intro e1 s g base outer L M dM la lb D S1 mg mb mean t vop vbp Q va vb X T B F N o1 hla hva hlb hvb ral rbl R k
  refine gmbC X T B F N o1 hla hva hlb hvb ral rbl R m0 m1 m2 (by omega) (by omega) (by omega) (by omega) (by omega) (by omega) (by omega) (by omega) (by omega) (by omega) ?_
  intro S x0 d0 x1 d1 x2 d2 c h' tk m' p0 p1 p2 p3 p4 p5 p6 p7 p8 F' N' l9 l0 l1 l2
  exact k S _ [.ref x0, .ref x1, .ref x2] c h' tk m' F' (.cons (.cons (.cons .nil))) (news_sub N' (by repeat (first | exact List.forall_mem_nil _ | refine List.forall_mem_cons.mpr ⟨by k_mem, ?_⟩))) l9 (List.forall_mem_cons.mpr ⟨l0, List.forall_mem_cons.mpr ⟨l1, List.forall_mem_cons.mpr ⟨l2, List.forall_mem_nil _⟩⟩⟩)
theorem gmbD_G {w : World} {as bs : List Int} {i0 j0 k0 i2 j2 : Int} (m0 : FM as bs 0 as.length 0 bs.length i0 j0 k0) (m1 : FM as bs 0 i0 0 j0 0 0 1) (m2 : FM as bs (0 + 1) i0 (0 + 1) j0 i2 j2 0)
    (q0 : 0 < k0) (q1 : 1 < i0) (q2 : 1 < j0) (q3 : i0 + k0 = as.length) (q4 : j0 + k0 < bs.length) : GmbB w as bs [(0, 0, 0 + 1), (i0, j0, k0), ((as.length : Int), (bs.length : Int), 0)] := by
  refine ⟨?_⟩
  intro e1 s g base outer L M dM la lb D S1 mg mb mean t vop vbp Q va vb X T B F N o1 hla hva hlb hvb ral rbl R k
  refine gmbD X T B F N o1 hla hva hlb hvb ral rbl R m0 m1 m2 (by omega) (by omega) (by omega) (by omega) (by omega) (by omega) (by omega) (by omega) (by omega) ?_
  intro S x0 d0 x1 d1 x2 d2 c h' tk m' p0 p1 p2 p3 p4 p5 p6 p7 p8 F' N' l9 l0 l1 l2
  exact k S _ [.ref x0, .ref x1, .ref x2] c h' tk m' F' (.cons (.cons (.cons .nil))) (news_sub N' (by repeat (first | exact List.forall_mem_nil _ | refine List.forall_mem_cons.mpr ⟨by k_mem, ?_⟩))) l9 (List.forall_mem_cons.mpr ⟨l0, List.forall_mem_cons.mpr ⟨l1, List.forall_mem_cons.mpr ⟨l2, List.forall_mem_nil _⟩⟩⟩)
theorem opcC_G {w : World} {a1 b1 c1 na nb : Int} (q0 : 1 < a1) (q1 : 1 < b1) (q2 : 0 < c1) (q3 : a1 + c1 < na) (q4 : b1 + c1 = nb) : OpcB w [(0, 0, 0 + 1), (a1, b1, c1), (na, nb, 0)] [("equal", 0, 1, 0, 1), ("replace", 1, a1, 1, b1), ("equal", a1, a1 + c1, b1, b1 + c1), ("delete", a1 + c1, na, b1 + c1, nb)] := by
  refine ⟨?_⟩
  intro e1 s g base outer L M dM la lb D S1 S mg mb mean t vbp Q c xs vs X T B F ms
  obtain ⟨x0, d0, p0, q0, r0, x1, d1, p1, q1, r1, x2, d2, p2, q2, r2, rfl, rfl⟩ := ms_inv3 ms
  intro N o1 o2 o3 k
  refine opcC X T B F N o1 o2 (o3 _ (.head _)) (o3 _ (.tail _ (.head _))) (o3 _ (.tail _ (.tail _ (.head _)))) (by omega) (by omega) (by omega) (by omega) (by omega) ?_
  intro l y0 y1 y2 y3 z0 z1 z2 z3 c' h' tk m' F' N' e0 e1 e2 e3
  exact k l _ [.ref y0, .ref y1, .ref y2, .ref y3] c' h' tk m' F' (.cons e0 (.cons e1 (.cons e2 (.cons e3 .nil)))) (by simp only [List.cons_append, List.nil_append]; exact news_sub N' (by repeat (first | exact List.forall_mem_nil _ | refine List.forall_mem_cons.mpr ⟨by k_mem, ?_⟩)))
theorem opcD_G {w : World} {a1 b1 c1 na nb : Int} (q0 : 1 < a1) (q1 : 1 < b1) (q2 : 0 < c1) (q3 : a1 + c1 = na) (q4 : b1 + c1 < nb) : OpcB w [(0, 0, 0 + 1), (a1, b1, c1), (na, nb, 0)] [("equal", 0, 1, 0, 1), ("replace", 1, a1, 1, b1), ("equal", a1, a1 + c1, b1, b1 + c1), ("insert", a1 + c1, na, b1 + c1, nb)] := by
  refine ⟨?_⟩
  intro e1 s g base outer L M dM la lb D S1 S mg mb mean t vbp Q c xs vs X T B F ms
  obtain ⟨x0, d0, p0, q0, r0, x1, d1, p1, q1, r1, x2, d2, p2, q2, r2, rfl, rfl⟩ := ms_inv3 ms
  intro N o1 o2 o3 k
  refine opcD X T B F N o1 o2 (o3 _ (.head _)) (o3 _ (.tail _ (.head _))) (o3 _ (.tail _ (.tail _ (.head _)))) (by omega) (by omega) (by omega) (by omega) (by omega) ?_
  intro l y0 y1 y2 y3 z0 z1 z2 z3 c' h' tk m' F' N' e0 e1 e2 e3
  exact k l _ [.ref y0, .ref y1, .ref y2, .ref y3] c' h' tk m' F' (.cons e0 (.cons e1 (.cons e2 (.cons e3 .nil)))) (by simp only [List.cons_append, List.nil_append]; exact news_sub N' (by repeat (first | exact List.forall_mem_nil _ | refine List.forall_mem_cons.mpr ⟨by k_mem, ?_⟩)))
theorem opcA_G {w : World} {a1 b1 c1 a2 b2 c2 na nb : Int} (q0 : 1 < a1) (q1 : 1 < b1) (q2 : 0 < c1) (q3 : a1 + c1 = a2) (q4 : b1 + c1 < b2) (q5 : 0 < c2) (q6 : a2 + c2 < na) (q7 : b2 + c2 = nb) : OpcB w [(0, 0, 0 + 1), (a1, b1, c1), (a2, b2, c2), (na, nb, 0)] [("equal", 0, 1, 0, 1), ("replace", 1, a1, 1, b1), ("equal", a1, a1 + c1, b1, b1 + c1), ("insert", a1 + c1, a2, b1 + c1, b2), ("equal", a2, a2 + c2, b2, b2 + c2), ("delete", a2 + c2, na, b2 + c2, nb)] := by
  refine ⟨?_⟩
  intro e1 s g base outer L M dM la lb D S1 S mg mb mean t vbp Q c xs vs X T B F ms
  obtain ⟨x0, d0, p0, q0, r0, x1, d1, p1, q1, r1, x2, d2, p2, q2, r2, x3, d3, p3, q3, r3, rfl, rfl⟩ := ms_inv4 ms
  intro N o1 o2 o3 k
  refine opcA X T B F N o1 o2 (o3 _ (.head _)) (o3 _ (.tail _ (.head _))) (o3 _ (.tail _ (.tail _ (.head _)))) (o3 _ (.tail _ (.tail _ (.tail _ (.head _))))) (by omega) (by omega) (by omega) (by omega) (by omega) (by omega) (by omega) (by omega) ?_
  intro l y0 y1 y2 y3 y4 y5 z0 z1 z2 z3 z4 z5 c' h' tk m' F' N' e0 e1 e2 e3 e4 e5
  exact k l _ [.ref y0, .ref y1, .ref y2, .ref y3, .ref y4, .ref y5] c' h' tk m' F' (.cons e0 (.cons e1 (.cons e2 (.cons e3 (.cons e4 (.cons e5 .nil)))))) (by simp only [List.cons_append, List.nil_append]; exact news_sub N' (by repeat (first | exact List.forall_mem_nil _ | refine List.forall_mem_cons.mpr ⟨by k_mem, ?_⟩)))
end Mine
end
theorem Mine.flush13 {M : PySem.Model} {A : PySem.Around} {env : PySem.Env} {E : PySem.Value → PySem.Shared → Prop} {Q : PySem.Flow → PySem.Shared → Prop} {s : PySem.Shared} (h : Q .next s) : PySem.wpAny M A (PySem.execs [] env) Q E s := by first | (walk1; exact h) | exact PySem.wpAny_execs_nil h
section
open PySem PySem.W PySem.Calls PyProof.Rows
set_option maxRecDepth 100000
namespace Mine
local macro_rules | `(tactic| k_all) => `(tactic| assumption)
theorem off_ms {a xs : List (Addr × Obj)} {dM S : Addr} (h : ∀ p ∈ a, p.1 ≠ dM) (l1 : @LT.lt Nat _ dM S) (l2 : ∀ p ∈ xs, @LT.lt Nat _ S p.1) : ∀ p ∈ a ++ xs, p.1 ≠ dM := fun p hp => (List.mem_append.mp hp).elim (h p) fun q => Nat.ne_of_gt (Nat.lt_trans l1 (l2 p q))
set_option maxHeartbeats 8000000 in
theorem chk1 {w : World} {s : Shared} {h₀ base : Heap} {L fa' : Addr} {mg mb m : Str → Option Value} {mean : ExcName → Option Value} {cd : Value} {Q : Flow → Shared → Prop}
    {M dM la0 lb0 lx ly lf lg lt lc : Addr} {t : Nat → Tok} {vmb vop vfb vb2j vbj vbp : Value} {xa0 xb0 : Array Value} {vx vy vf vg vt vc : List Value} {ca cb cx cy cf cg ct cc : Nat} {xs ys fa fb : List Int} {rest ts cs : List (Addr × Obj)} {bl : List (Int × Int × Int)} {ol : List (String × Int × Int × Int × Int)}
    (X : (K w.params).In h₀) (T : Top qv (looseW qv loose) mean mg mb h₀) (B : Below callerA base [] h₀) (o1 : @LT.lt Nat _ dM M)
    (F : Fr h₀ L s.heap (over [(Str.ofString "matcher", .ref M), (Str.ofString "first", .ref lf), (Str.ofString "second", .ref lg), (Str.ofString "x", .ref lx), (Str.ofString "y", .ref ly), (Str.ofString "there", .ref lt), (Str.ofString "codes", .ref lc)] m))
    (N : News h₀ L s.heap ((M, instObj 242 dM) :: (dM, sD w.params t (.ref la0) (.ref lb0) vmb vop vfb vb2j vbj vbp) :: (la0, listOf xa0 ca) :: (lb0, listOf xb0 cb) :: (lx, listOf vx.toArray cx) :: (ly, listOf vy.toArray cy) :: (lf, listOf vf.toArray cf) :: (lg, listOf vg.toArray cg) :: (lt, listOf vt.toArray ct) :: (lc, listOf vc.toArray cc) :: rest)) (hrest : ∀ p ∈ rest, p.1 ≠ dM)
    (hx : IntsAre vx xs) (hy : IntsAre vy ys) (hf : IntsAre vf fa) (hg : IntsAre vg fb) (hlx : xs.length ≤ 1000) (hly : ys.length ≤ 1000) (hlf : fa.length = 2) (hlg : fb.length = 2)
    (G : GmbB w (fa ++ xs ++ ys) (fb ++ ys ++ xs) bl) (O : OpcB w bl ol) (ht : TsL ts vt bl) (hts : ∀ p ∈ ts, p ∈ rest) (hc : OsL cs vc ol) (hcs : ∀ p ∈ cs, p ∈ rest)
    (k : ∀ la lb va vb t vmb vop vb2j vbj vbp h' tk, Fr h₀ L h' (over [(Str.ofString "matcher", .ref M), (Str.ofString "first", .ref lf), (Str.ofString "second", .ref lg), (Str.ofString "x", .ref lx), (Str.ofString "y", .ref ly), (Str.ofString "there", .ref lt), (Str.ofString "codes", .ref lc)] m) → News h₀ L h' ((M, instObj 242 dM) :: (dM, sD w.params t (.ref la) (.ref lb) vmb vop .none vb2j vbj vbp) :: (la, listOf va 0) :: (lb, listOf vb 0) :: (lx, listOf vx.toArray cx) :: (ly, listOf vy.toArray cy) :: (lf, listOf vf.toArray cf) :: (lg, listOf vg.toArray cg) :: (lt, listOf vt.toArray ct) :: (lc, listOf vc.toArray cc) :: rest) → Q .next { s with heap := h', toks := tk }) :
    wpAny (model pw w) (callerA.deeper (envL L fa' cd)) (execs CH1 (envL L fa' cd)) Q (fun _ _ => False) s := by
  have n_la0 : @Ne Nat la0 dM := ne_of_cls N (by k_mem) (by k_mem) (by first | (intro e; cases e; done) | (intro e; exact absurd (Value.type.inj e) (by decide)))
  have n_lb0 : @Ne Nat lb0 dM := ne_of_cls N (by k_mem) (by k_mem) (by first | (intro e; cases e; done) | (intro e; exact absurd (Value.type.inj e) (by decide)))
  have n_lx : @Ne Nat lx dM := ne_of_cls N (by k_mem) (by k_mem) (by first | (intro e; cases e; done) | (intro e; exact absurd (Value.type.inj e) (by decide)))
  have n_ly : @Ne Nat ly dM := ne_of_cls N (by k_mem) (by k_mem) (by first | (intro e; cases e; done) | (intro e; exact absurd (Value.type.inj e) (by decide)))
  have n_lf : @Ne Nat lf dM := ne_of_cls N (by k_mem) (by k_mem) (by first | (intro e; cases e; done) | (intro e; exact absurd (Value.type.inj e) (by decide)))
  have n_lg : @Ne Nat lg dM := ne_of_cls N (by k_mem) (by k_mem) (by first | (intro e; cases e; done) | (intro e; exact absurd (Value.type.inj e) (by decide)))
  have n_lt : @Ne Nat lt dM := ne_of_cls N (by k_mem) (by k_mem) (by first | (intro e; cases e; done) | (intro e; exact absurd (Value.type.inj e) (by decide)))
  have n_lc : @Ne Nat lc dM := ne_of_cls N (by k_mem) (by k_mem) (by first | (intro e; cases e; done) | (intro e; exact absurd (Value.type.inj e) (by decide)))
  have hlenB : (fb ++ ys ++ xs).length < 100000 := by simp only [List.length_append]; omega
  have hlenA : (fa ++ xs ++ ys).length < 100000 := by simp only [List.length_append]; omega
  have ral : ((fa ++ xs ++ ys).length : Int) < 100000 := by omega
  have rbl : ((fb ++ ys ++ xs).length : Int) < 100000 := by omega
  conv in CH1 => whnf
  show wpAny _ _ (execs _ _) _ _ _
  obtain ⟨hp, gn, dr, tk, os⟩ := s
  dsimp only at F N k
  repeat' (first | ((first | (k_here; (with_reducible show wpAny _ _ (compareOp CmpOp.NotEq (Value.ref _) (Value.ref _)) _ _ _); k_dflt (refine ne_blkG (by k_asm) (by k_asm) (by k_asm) (by k_mem) (by k_mem) (by assumption) ht (by intro p hp; simp only [List.mem_cons, List.mem_append, hp, or_true, true_or]) (by intro p hp; replace hp := hts p hp; simp only [List.mem_cons, List.mem_append, hp, or_true, true_or]) (by exact Nat.le_of_ble_eq_true rfl) (by exact Nat.le_of_ble_eq_true rfl) ?_)) | (k_here; (with_reducible show wpAny _ _ (compareOp CmpOp.NotEq (Value.ref _) (Value.ref _)) _ _ _); k_dflt (refine ne_opsG (by k_asm) (by k_mem) (by k_mem) (by assumption) hc (by intro p hp; simp only [List.mem_cons, List.mem_append, hp, or_true, true_or]) (by intro p hp; replace hp := hcs p hp; simp only [List.mem_cons, List.mem_append, hp, or_true, true_or]) (by exact Nat.le_of_ble_eq_true rfl) (by exact Nat.le_of_ble_eq_true rfl) ?_)) | (k_here; (with_reducible show wpAny _ _ (call (Value.ref 210) _) _ _ _); k_dflt (refine opcG (by k_asm) (by k_asm) (by k_asm) (by k_asm) (by exact rfl) (by assumption) (by k_asm) (by k_mem) (by k_updF) (by k_mem) (by assumption) (by intro p hp; simp only [List.mem_cons, List.mem_append, hp, or_true, true_or]) (by assumption) (by assumption) O ?_); intro l' ys' ws' c2' h' tk' F' os' N'; simp only [List.cons_append] at N') | (k_here; (with_reducible show wpAny _ _ (call (Value.ref 203) _) _ _ _); k_dflt (refine gmbG (by k_asm) (by k_asm) (by k_asm) (by k_asm) (by exact rfl) (by assumption) (by k_asm) (by k_mem) (by k_updF) (by (refine' ready_mem ?N2 ?M2 ?D2 ?o2 ?tab ?tb ?la ?ia ?lb ?ib ?na ?nb; (case N2 => k_asm); (case M2 => k_mem); (case D2 => k_mem); (case o2 => assumption); (case tab => assumption); (case tb => assumption); (case la => k_mem); (case ia => assumption); (case lb => k_mem); (case ib => assumption); (case na => omega); (case nb => omega))) G ?_); intro S' xs' vs' c' h' tk' F' ms' N' l1' l2'; simp only [List.cons_append] at N'; have hr3 := off_ms (by assumption) l1' l2') | (k_here; (with_reducible show wpAny _ _ (call (Value.ref 167) _) _ _ _); k_dflt (refine seqsU (by k_asm) (by k_asm) (by k_asm) (by k_asm) (by k_asm) (by k_mem) (by k_updF) (by exact rfl) (by assumption) (by k_mem) (by k_mem) (by k_mem) (by k_mem) (by assumption) (by assumption) (by k_ne) (by k_ne) ?_); intro h' tk' D' J' P' tb' F' N' tab'; have htb' := tail_in N'; simp only [List.cons_append] at N' htb'; have hr' := off_app (by assumption) tab') | walk1); all_goals (try dsimp only); all_goals (try ((with_reducible refine wp_tok ?_); intro tk))) | (dsimp only; (first | (k_here; (with_reducible show wpAny _ _ (compareOp CmpOp.NotEq (Value.ref _) (Value.ref _)) _ _ _); k_dflt (refine ne_blkG (by k_asm) (by k_asm) (by k_asm) (by k_mem) (by k_mem) (by assumption) ht (by intro p hp; simp only [List.mem_cons, List.mem_append, hp, or_true, true_or]) (by intro p hp; replace hp := hts p hp; simp only [List.mem_cons, List.mem_append, hp, or_true, true_or]) (by exact Nat.le_of_ble_eq_true rfl) (by exact Nat.le_of_ble_eq_true rfl) ?_)) | (k_here; (with_reducible show wpAny _ _ (compareOp CmpOp.NotEq (Value.ref _) (Value.ref _)) _ _ _); k_dflt (refine ne_opsG (by k_asm) (by k_mem) (by k_mem) (by assumption) hc (by intro p hp; simp only [List.mem_cons, List.mem_append, hp, or_true, true_or]) (by intro p hp; replace hp := hcs p hp; simp only [List.mem_cons, List.mem_append, hp, or_true, true_or]) (by exact Nat.le_of_ble_eq_true rfl) (by exact Nat.le_of_ble_eq_true rfl) ?_)) | (k_here; (with_reducible show wpAny _ _ (call (Value.ref 210) _) _ _ _); k_dflt (refine opcG (by k_asm) (by k_asm) (by k_asm) (by k_asm) (by exact rfl) (by assumption) (by k_asm) (by k_mem) (by k_updF) (by k_mem) (by assumption) (by intro p hp; simp only [List.mem_cons, List.mem_append, hp, or_true, true_or]) (by assumption) (by assumption) O ?_); intro l' ys' ws' c2' h' tk' F' os' N'; simp only [List.cons_append] at N') | (k_here; (with_reducible show wpAny _ _ (call (Value.ref 203) _) _ _ _); k_dflt (refine gmbG (by k_asm) (by k_asm) (by k_asm) (by k_asm) (by exact rfl) (by assumption) (by k_asm) (by k_mem) (by k_updF) (by (refine' ready_mem ?N2 ?M2 ?D2 ?o2 ?tab ?tb ?la ?ia ?lb ?ib ?na ?nb; (case N2 => k_asm); (case M2 => k_mem); (case D2 => k_mem); (case o2 => assumption); (case tab => assumption); (case tb => assumption); (case la => k_mem); (case ia => assumption); (case lb => k_mem); (case ib => assumption); (case na => omega); (case nb => omega))) G ?_); intro S' xs' vs' c' h' tk' F' ms' N' l1' l2'; simp only [List.cons_append] at N'; have hr3 := off_ms (by assumption) l1' l2') | (k_here; (with_reducible show wpAny _ _ (call (Value.ref 167) _) _ _ _); k_dflt (refine seqsU (by k_asm) (by k_asm) (by k_asm) (by k_asm) (by k_asm) (by k_mem) (by k_updF) (by exact rfl) (by assumption) (by k_mem) (by k_mem) (by k_mem) (by k_mem) (by assumption) (by assumption) (by k_ne) (by k_ne) ?_); intro h' tk' D' J' P' tb' F' N' tab'; have htb' := tail_in N'; simp only [List.cons_append] at N' htb'; have hr' := off_app (by assumption) tab') | walk1)))
  rename Fr h₀ L _ _ => F9
  rename News h₀ L _ _ => N9
  exact wpAny_pure (k _ _ _ _ _ _ _ _ _ _ _ _ F9 (news_sub N9 (by repeat (first | (intro p hp; simp only [List.mem_cons, List.mem_append, hp, or_true, true_or]; done) | refine List.forall_mem_cons.mpr ⟨by k_mem, ?_⟩))))
set_option maxHeartbeats 8000000 in
theorem chk2 {w : World} {s : Shared} {h₀ base : Heap} {L fa' : Addr} {mg mb m : Str → Option Value} {mean : ExcName → Option Value} {cd : Value} {Q : Flow → Shared → Prop}
    {M dM la0 lb0 lx ly lf lg lt lc : Addr} {t : Nat → Tok} {vmb vop vfb vb2j vbj vbp : Value} {xa0 xb0 : Array Value} {vx vy vf vg vt vc : List Value} {ca cb cx cy cf cg ct cc : Nat} {xs ys fa fb : List Int} {rest ts cs : List (Addr × Obj)} {bl : List (Int × Int × Int)} {ol : List (String × Int × Int × Int × Int)}
    (X : (K w.params).In h₀) (T : Top qv (looseW qv loose) mean mg mb h₀) (B : Below callerA base [] h₀) (o1 : @LT.lt Nat _ dM M)
    (F : Fr h₀ L s.heap (over [(Str.ofString "matcher", .ref M), (Str.ofString "first", .ref lf), (Str.ofString "second", .ref lg), (Str.ofString "x", .ref lx), (Str.ofString "y", .ref ly), (Str.ofString "back", .ref lt), (Str.ofString "back_codes", .ref lc)] m))
    (N : News h₀ L s.heap ((M, instObj 242 dM) :: (dM, sD w.params t (.ref la0) (.ref lb0) vmb vop vfb vb2j vbj vbp) :: (la0, listOf xa0 ca) :: (lb0, listOf xb0 cb) :: (lx, listOf vx.toArray cx) :: (ly, listOf vy.toArray cy) :: (lf, listOf vf.toArray cf) :: (lg, listOf vg.toArray cg) :: (lt, listOf vt.toArray ct) :: (lc, listOf vc.toArray cc) :: rest)) (hrest : ∀ p ∈ rest, p.1 ≠ dM)
    (hx : IntsAre vx xs) (hy : IntsAre vy ys) (hf : IntsAre vf fa) (hg : IntsAre vg fb) (hlx : xs.length ≤ 1000) (hly : ys.length ≤ 1000) (hlf : fa.length = 2) (hlg : fb.length = 2)
    (G : GmbB w (fb ++ ys ++ xs) (fa ++ xs ++ ys) bl) (O : OpcB w bl ol) (ht : TsL ts vt bl) (hts : ∀ p ∈ ts, p ∈ rest) (hc : OsL cs vc ol) (hcs : ∀ p ∈ cs, p ∈ rest)
    (k : ∀ la lb va vb t vmb vop vb2j vbj vbp h' tk, Fr h₀ L h' (over [(Str.ofString "matcher", .ref M), (Str.ofString "first", .ref lf), (Str.ofString "second", .ref lg), (Str.ofString "x", .ref lx), (Str.ofString "y", .ref ly), (Str.ofString "back", .ref lt), (Str.ofString "back_codes", .ref lc)] m) → News h₀ L h' ((M, instObj 242 dM) :: (dM, sD w.params t (.ref la) (.ref lb) vmb vop .none vb2j vbj vbp) :: (la, listOf va 0) :: (lb, listOf vb 0) :: (lx, listOf vx.toArray cx) :: (ly, listOf vy.toArray cy) :: (lf, listOf vf.toArray cf) :: (lg, listOf vg.toArray cg) :: (lt, listOf vt.toArray ct) :: (lc, listOf vc.toArray cc) :: rest) → Q .next { s with heap := h', toks := tk }) :
    wpAny (model pw w) (callerA.deeper (envL L fa' cd)) (execs CH2 (envL L fa' cd)) Q (fun _ _ => False) s := by
  have n_la0 : @Ne Nat la0 dM := ne_of_cls N (by k_mem) (by k_mem) (by first | (intro e; cases e; done) | (intro e; exact absurd (Value.type.inj e) (by decide)))
  have n_lb0 : @Ne Nat lb0 dM := ne_of_cls N (by k_mem) (by k_mem) (by first | (intro e; cases e; done) | (intro e; exact absurd (Value.type.inj e) (by decide)))
  have n_lx : @Ne Nat lx dM := ne_of_cls N (by k_mem) (by k_mem) (by first | (intro e; cases e; done) | (intro e; exact absurd (Value.type.inj e) (by decide)))
  have n_ly : @Ne Nat ly dM := ne_of_cls N (by k_mem) (by k_mem) (by first | (intro e; cases e; done) | (intro e; exact absurd (Value.type.inj e) (by decide)))
  have n_lf : @Ne Nat lf dM := ne_of_cls N (by k_mem) (by k_mem) (by first | (intro e; cases e; done) | (intro e; exact absurd (Value.type.inj e) (by decide)))
  have n_lg : @Ne Nat lg dM := ne_of_cls N (by k_mem) (by k_mem) (by first | (intro e; cases e; done) | (intro e; exact absurd (Value.type.inj e) (by decide)))
  have n_lt : @Ne Nat lt dM := ne_of_cls N (by k_mem) (by k_mem) (by first | (intro e; cases e; done) | (intro e; exact absurd (Value.type.inj e) (by decide)))
  have n_lc : @Ne Nat lc dM := ne_of_cls N (by k_mem) (by k_mem) (by first | (intro e; cases e; done) | (intro e; exact absurd (Value.type.inj e) (by decide)))
  have hlenB : (fb ++ ys ++ xs).length < 100000 := by simp only [List.length_append]; omega
  have hlenA : (fa ++ xs ++ ys).length < 100000 := by simp only [List.length_append]; omega
  have ral : ((fa ++ xs ++ ys).length : Int) < 100000 := by omega
  have rbl : ((fb ++ ys ++ xs).length : Int) < 100000 := by omega
  conv in CH2 => whnf
  show wpAny _ _ (execs _ _) _ _ _
  obtain ⟨hp, gn, dr, tk, os⟩ := s
  dsimp only at F N k
  repeat' (first | ((first | (k_here; (with_reducible show wpAny _ _ (compareOp CmpOp.NotEq (Value.ref _) (Value.ref _)) _ _ _); k_dflt (refine ne_blkG (by k_asm) (by k_asm) (by k_asm) (by k_mem) (by k_mem) (by assumption) ht (by intro p hp; simp only [List.mem_cons, List.mem_append, hp, or_true, true_or]) (by intro p hp; replace hp := hts p hp; simp only [List.mem_cons, List.mem_append, hp, or_true, true_or]) (by exact Nat.le_of_ble_eq_true rfl) (by exact Nat.le_of_ble_eq_true rfl) ?_)) | (k_here; (with_reducible show wpAny _ _ (compareOp CmpOp.NotEq (Value.ref _) (Value.ref _)) _ _ _); k_dflt (refine ne_opsG (by k_asm) (by k_mem) (by k_mem) (by assumption) hc (by intro p hp; simp only [List.mem_cons, List.mem_append, hp, or_true, true_or]) (by intro p hp; replace hp := hcs p hp; simp only [List.mem_cons, List.mem_append, hp, or_true, true_or]) (by exact Nat.le_of_ble_eq_true rfl) (by exact Nat.le_of_ble_eq_true rfl) ?_)) | (k_here; (with_reducible show wpAny _ _ (call (Value.ref 210) _) _ _ _); k_dflt (refine opcG (by k_asm) (by k_asm) (by k_asm) (by k_asm) (by exact rfl) (by assumption) (by k_asm) (by k_mem) (by k_updF) (by k_mem) (by assumption) (by intro p hp; simp only [List.mem_cons, List.mem_append, hp, or_true, true_or]) (by assumption) (by assumption) O ?_); intro l' ys' ws' c2' h' tk' F' os' N'; simp only [List.cons_append] at N') | (k_here; (with_reducible show wpAny _ _ (call (Value.ref 203) _) _ _ _); k_dflt (refine gmbG (by k_asm) (by k_asm) (by k_asm) (by k_asm) (by exact rfl) (by assumption) (by k_asm) (by k_mem) (by k_updF) (by (refine' ready_mem ?N2 ?M2 ?D2 ?o2 ?tab ?tb ?la ?ia ?lb ?ib ?na ?nb; (case N2 => k_asm); (case M2 => k_mem); (case D2 => k_mem); (case o2 => assumption); (case tab => assumption); (case tb => assumption); (case la => k_mem); (case ia => assumption); (case lb => k_mem); (case ib => assumption); (case na => omega); (case nb => omega))) G ?_); intro S' xs' vs' c' h' tk' F' ms' N' l1' l2'; simp only [List.cons_append] at N'; have hr3 := off_ms (by assumption) l1' l2') | (k_here; (with_reducible show wpAny _ _ (call (Value.ref 167) _) _ _ _); k_dflt (refine seqsU (by k_asm) (by k_asm) (by k_asm) (by k_asm) (by k_asm) (by k_mem) (by k_updF) (by exact rfl) (by assumption) (by k_mem) (by k_mem) (by k_mem) (by k_mem) (by assumption) (by assumption) (by k_ne) (by k_ne) ?_); intro h' tk' D' J' P' tb' F' N' tab'; have htb' := tail_in N'; simp only [List.cons_append] at N' htb'; have hr' := off_app (by assumption) tab') | walk1); all_goals (try dsimp only); all_goals (try ((with_reducible refine wp_tok ?_); intro tk))) | (dsimp only; (first | (k_here; (with_reducible show wpAny _ _ (compareOp CmpOp.NotEq (Value.ref _) (Value.ref _)) _ _ _); k_dflt (refine ne_blkG (by k_asm) (by k_asm) (by k_asm) (by k_mem) (by k_mem) (by assumption) ht (by intro p hp; simp only [List.mem_cons, List.mem_append, hp, or_true, true_or]) (by intro p hp; replace hp := hts p hp; simp only [List.mem_cons, List.mem_append, hp, or_true, true_or]) (by exact Nat.le_of_ble_eq_true rfl) (by exact Nat.le_of_ble_eq_true rfl) ?_)) | (k_here; (with_reducible show wpAny _ _ (compareOp CmpOp.NotEq (Value.ref _) (Value.ref _)) _ _ _); k_dflt (refine ne_opsG (by k_asm) (by k_mem) (by k_mem) (by assumption) hc (by intro p hp; simp only [List.mem_cons, List.mem_append, hp, or_true, true_or]) (by intro p hp; replace hp := hcs p hp; simp only [List.mem_cons, List.mem_append, hp, or_true, true_or]) (by exact Nat.le_of_ble_eq_true rfl) (by exact Nat.le_of_ble_eq_true rfl) ?_)) | (k_here; (with_reducible show wpAny _ _ (call (Value.ref 210) _) _ _ _); k_dflt (refine opcG (by k_asm) (by k_asm) (by k_asm) (by k_asm) (by exact rfl) (by assumption) (by k_asm) (by k_mem) (by k_updF) (by k_mem) (by assumption) (by intro p hp; simp only [List.mem_cons, List.mem_append, hp, or_true, true_or]) (by assumption) (by assumption) O ?_); intro l' ys' ws' c2' h' tk' F' os' N'; simp only [List.cons_append] at N') | (k_here; (with_reducible show wpAny _ _ (call (Value.ref 203) _) _ _ _); k_dflt (refine gmbG (by k_asm) (by k_asm) (by k_asm) (by k_asm) (by exact rfl) (by assumption) (by k_asm) (by k_mem) (by k_updF) (by (refine' ready_mem ?N2 ?M2 ?D2 ?o2 ?tab ?tb ?la ?ia ?lb ?ib ?na ?nb; (case N2 => k_asm); (case M2 => k_mem); (case D2 => k_mem); (case o2 => assumption); (case tab => assumption); (case tb => assumption); (case la => k_mem); (case ia => assumption); (case lb => k_mem); (case ib => assumption); (case na => omega); (case nb => omega))) G ?_); intro S' xs' vs' c' h' tk' F' ms' N' l1' l2'; simp only [List.cons_append] at N'; have hr3 := off_ms (by assumption) l1' l2') | (k_here; (with_reducible show wpAny _ _ (call (Value.ref 167) _) _ _ _); k_dflt (refine seqsU (by k_asm) (by k_asm) (by k_asm) (by k_asm) (by k_asm) (by k_mem) (by k_updF) (by exact rfl) (by assumption) (by k_mem) (by k_mem) (by k_mem) (by k_mem) (by assumption) (by assumption) (by k_ne) (by k_ne) ?_); intro h' tk' D' J' P' tb' F' N' tab'; have htb' := tail_in N'; simp only [List.cons_append] at N' htb'; have hr' := off_app (by assumption) tab') | walk1)))
  rename Fr h₀ L _ _ => F9
  rename News h₀ L _ _ => N9
  exact wpAny_pure (k _ _ _ _ _ _ _ _ _ _ _ _ F9 (news_sub N9 (by repeat (first | (intro p hp; simp only [List.mem_cons, List.mem_append, hp, or_true, true_or]; done) | refine List.forall_mem_cons.mpr ⟨by k_mem, ?_⟩))))
end Mine
end
section
open PySem PySem.W PySem.Calls PyProof.Rows
set_option maxRecDepth 100000
namespace Mine
set_option maxHeartbeats 8000000 in
theorem turn0 {w : World} {s : Shared} {h₀ base : Heap} {L fa' M dM ls la0 lb0 lx ly I : Addr} {oI : Obj} {mg mb m : Str → Option Value} {mean : ExcName → Option Value} {cd : Value} {Q : Flow → Shared → Prop} {tn item : Int} {tt ti : Tok} {vx vy vs : List Value} {ca cb cx cy n : Nat} {xs ys ns : List Int} {xa0 xb0 : Array Value} {t : Nat → Tok} {vmb vop vfb vb2j vbj vbp : Value}
    (X : (K w.params).In h₀) (T : Top qv (looseW qv loose) mean mg mb h₀) (B : Below callerA base [] h₀) (hls : h₀.IsList ls vs.toArray) (hns : IntsAre vs ns) (hlen : ns.length ≤ 63) (o1 : @LT.lt Nat _ dM M)
    (F : Fr h₀ L s.heap (over [(Str.ofString "turn", .int tn tt), (Str.ofString "item", .int item ti), (Str.ofString "x", .ref lx), (Str.ofString "y", .ref ly), (Str.ofString "matcher", .ref M), (Str.ofString "script", .ref ls)] m))
    (N : News h₀ L s.heap ((I, oI) :: (M, instObj 242 dM) :: (dM, sD w.params t (.ref la0) (.ref lb0) vmb vop vfb vb2j vbj vbp) :: (la0, listOf xa0 ca) :: (lb0, listOf xb0 cb) :: (lx, listOf vx.toArray cx) :: (ly, listOf vy.toArray cy) :: []))
    (hI : @Ne Nat I dM) (hx : IntsAre vx xs) (hy : IntsAre vy ys) (W : Words item n xs ys) (en : n = 0) (q0 : tn = n) (q1 : tn < 7)
    (k : ∀ h' tk t la lb va vb vmb vop vb2j vbj vbp lx' ly' vx' vy' cx' cy' xs' ys' m', Fr h₀ L h' (over [(Str.ofString "item", .int item ti), (Str.ofString "x", .ref lx'), (Str.ofString "y", .ref ly'), (Str.ofString "matcher", .ref M), (Str.ofString "script", .ref ls)] m') →
      News h₀ L h' ((I, oI) :: (M, instObj 242 dM) :: (dM, sD w.params t (.ref la) (.ref lb) vmb vop .none vb2j vbj vbp) :: (la, listOf va 0) :: (lb, listOf vb 0) :: (lx', listOf (List.toArray vx') cx') :: (ly', listOf (List.toArray vy') cy') :: []) → IntsAre vx' xs' → IntsAre vy' ys' → Words item (n + 1) xs' ys' → Q .next { s with heap := h', toks := tk }) :
    wpAny (model pw w) (callerA.deeper (envL L fa' cd)) (execs LBody (envL L fa' cd)) Q (fun _ _ => False) s := by
  have hlx : xs.length ≤ 1000 := by have := W.hi; omega
  have hly : ys.length ≤ 1000 := by have := W.hi; have := W.le; omega
  rw [LBody_eq]
  refine execs_app ?_
  refine build0 (rest := (M, instObj 242 dM) :: (dM, sD w.params t (.ref la0) (.ref lb0) vmb vop vfb vb2j vbj vbp) :: (la0, listOf xa0 ca) :: (lb0, listOf xb0 cb) :: (I, oI) :: []) X T B F (news_sub N (by repeat (first | exact List.forall_mem_nil _ | refine List.forall_mem_cons.mpr ⟨by k_mem, ?_⟩))) hx hy hlx hly (by omega) ?_
  rintro lf lg vf vg nf ng lt lc t0 t1 t2 c0 c1 c2 c3 qt0 qt1 qt2 wc0 wc1 wc2 wc3 n1 n2 h1 tk1 m1 F1 N1 hf hg ⟨ut0, vt0, zt0, et0⟩ ⟨ut1, vt1, zt1, et1⟩ ⟨ut2, vt2, zt2, et2⟩ pc0 pc1 pc2 pc3
  subst et0 et1 et2
  obtain ⟨⟨m0, m1, m2⟩, ⟨m0', m1', m2'⟩, hS⟩ := words0 (en ▸ W)
  have hA := @len_a xs ys (item - 1) (item - 2)
  have hB := @len_b xs ys (item - 1) (item - 3)
  have N2 : News h₀ L h1 ((M, instObj 242 dM) :: (dM, sD w.params t (.ref la0) (.ref lb0) vmb vop vfb vb2j vbj vbp) :: (la0, listOf xa0 ca) :: (lb0, listOf xb0 cb) :: (lx, listOf vx.toArray cx) :: (ly, listOf vy.toArray cy) :: (lf, listOf vf.toArray nf) :: (lg, listOf vg.toArray ng) :: (lt, listOf #[.ref t0, .ref t1, .ref t2] n1) :: (lc, listOf #[.ref c0, .ref c1, .ref c2, .ref c3] n2) :: (t0, tup3 (.int 0 ut0) (.int 0 vt0) (.int 1 zt0)) :: (t1, tup3 (.int 2 ut1) (.int 3 vt1) (.int (((xs.length : Int) + (ys.length : Int)) - 1) zt1)) :: (t2, tup3 (.int (((xs.length : Int) + (ys.length : Int)) + 2) ut2) (.int (((xs.length : Int) + (ys.length : Int)) + 2) vt2) (.int 0 zt2)) :: (c0, wc0) :: (c1, wc1) :: (c2, wc2) :: (c3, wc3) :: (I, oI) :: []) := news_sub N1 (by repeat (first | exact List.forall_mem_nil _ | refine List.forall_mem_cons.mpr ⟨by k_mem, ?_⟩))
  have n_lt : @Ne Nat lt dM := ne_of_cls N2 (by k_mem) (by k_mem) (by first | (intro e; cases e; done) | (intro e; exact absurd (Value.type.inj e) (by decide)))
  have n_t0 : @Ne Nat t0 dM := ne_of_cls N2 (by k_mem) (by k_mem) (by first | (intro e; cases e; done) | (intro e; exact absurd (Value.type.inj e) (by decide)))
  have n_t1 : @Ne Nat t1 dM := ne_of_cls N2 (by k_mem) (by k_mem) (by first | (intro e; cases e; done) | (intro e; exact absurd (Value.type.inj e) (by decide)))
  have n_t2 : @Ne Nat t2 dM := ne_of_cls N2 (by k_mem) (by k_mem) (by first | (intro e; cases e; done) | (intro e; exact absurd (Value.type.inj e) (by decide)))
  have n_lc : @Ne Nat lc dM := ne_of_cls N2 (by k_mem) (by k_mem) (by first | (intro e; cases e; done) | (intro e; exact absurd (Value.type.inj e) (by decide)))
  have n_c0 : @Ne Nat c0 dM := ne_of_cls N2 (by k_mem) (by k_mem) (op_cls pc0)
  have n_c1 : @Ne Nat c1 dM := ne_of_cls N2 (by k_mem) (by k_mem) (op_cls pc1)
  have n_c2 : @Ne Nat c2 dM := ne_of_cls N2 (by k_mem) (by k_mem) (op_cls pc2)
  have n_c3 : @Ne Nat c3 dM := ne_of_cls N2 (by k_mem) (by k_mem) (op_cls pc3)
  have hrest1 : ∀ p ∈ ((t0, tup3 (.int 0 ut0) (.int 0 vt0) (.int 1 zt0)) :: (t1, tup3 (.int 2 ut1) (.int 3 vt1) (.int (((xs.length : Int) + (ys.length : Int)) - 1) zt1)) :: (t2, tup3 (.int (((xs.length : Int) + (ys.length : Int)) + 2) ut2) (.int (((xs.length : Int) + (ys.length : Int)) + 2) vt2) (.int 0 zt2)) :: (c0, wc0) :: (c1, wc1) :: (c2, wc2) :: (c3, wc3) :: (I, oI) :: [] : List (Addr × Obj)), p.1 ≠ dM := by repeat (first | exact List.forall_mem_nil _ | refine List.forall_mem_cons.mpr ⟨by assumption, ?_⟩)
  have hrest2 : ∀ p ∈ ((t0, tup3 (.int 0 ut0) (.int 0 vt0) (.int 1 zt0)) :: (t1, tup3 (.int 2 ut1) (.int 3 vt1) (.int (((xs.length : Int) + (ys.length : Int)) - 1) zt1)) :: (t2, tup3 (.int (((xs.length : Int) + (ys.length : Int)) + 2) ut2) (.int (((xs.length : Int) + (ys.length : Int)) + 2) vt2) (.int 0 zt2)) :: (c0, wc0) :: (c1, wc1) :: (c2, wc2) :: (c3, wc3) :: (I, oI) :: [] : List (Addr × Obj)), p.1 ≠ dM := by repeat (first | exact List.forall_mem_nil _ | refine List.forall_mem_cons.mpr ⟨by assumption, ?_⟩)
  refine execs_app ?_
  have F2 := fr_over (S := [(Str.ofString "matcher", .ref M), (Str.ofString "first", .ref lf), (Str.ofString "second", .ref lg), (Str.ofString "x", .ref lx), (Str.ofString "y", .ref ly), (Str.ofString "there", .ref lt), (Str.ofString "codes", .ref lc)]) F1 (by repeat (first | exact List.forall_mem_nil _ | refine List.forall_mem_cons.mpr ⟨rfl, ?_⟩))
  have G1 := GmbB.cast (gmbB_G (w := w) m0 m1 m2 (by omega) (by omega) (by omega) (by omega) (by omega)) (bl' := [(0, 0, 1), (2, 3, ((xs.length : Int) + (ys.length : Int)) - 1), (((xs.length : Int) + (ys.length : Int)) + 2, ((xs.length : Int) + (ys.length : Int)) + 2, 0)]) (by rw [hA, hB]; rfl)
  have O1 := OpcB.cast (opcC_G (w := w) (a1 := 2) (b1 := 3) (c1 := ((xs.length : Int) + (ys.length : Int)) - 1) (na := ((xs.length : Int) + (ys.length : Int)) + 2) (nb := ((xs.length : Int) + (ys.length : Int)) + 2) (by omega) (by omega) (by omega) (by omega) (by omega)) (bl' := [(0, 0, 1), (2, 3, ((xs.length : Int) + (ys.length : Int)) - 1), (((xs.length : Int) + (ys.length : Int)) + 2, ((xs.length : Int) + (ys.length : Int)) + 2, 0)]) (ol' := [("equal", 0, 1, 0, 1), ("replace", 1, 2, 1, 3), ("equal", 2, ((xs.length : Int) + (ys.length : Int)) + 1, 3, ((xs.length : Int) + (ys.length : Int)) + 2), ("delete", ((xs.length : Int) + (ys.length : Int)) + 1, ((xs.length : Int) + (ys.length : Int)) + 2, ((xs.length : Int) + (ys.length : Int)) + 2, ((xs.length : Int) + (ys.length : Int)) + 2)]) rfl (by simp only [List.cons.injEq, Prod.mk.injEq, and_true, true_and]; omega)
  refine chk1 (rest := (t0, tup3 (.int 0 ut0) (.int 0 vt0) (.int 1 zt0)) :: (t1, tup3 (.int 2 ut1) (.int 3 vt1) (.int (((xs.length : Int) + (ys.length : Int)) - 1) zt1)) :: (t2, tup3 (.int (((xs.length : Int) + (ys.length : Int)) + 2) ut2) (.int (((xs.length : Int) + (ys.length : Int)) + 2) vt2) (.int 0 zt2)) :: (c0, wc0) :: (c1, wc1) :: (c2, wc2) :: (c3, wc3) :: (I, oI) :: []) (ts := [(t0, tup3 (.int 0 ut0) (.int 0 vt0) (.int 1 zt0)), (t1, tup3 (.int 2 ut1) (.int 3 vt1) (.int (((xs.length : Int) + (ys.length : Int)) - 1) zt1)), (t2, tup3 (.int (((xs.length : Int) + (ys.length : Int)) + 2) ut2) (.int (((xs.length : Int) + (ys.length : Int)) + 2) vt2) (.int 0 zt2))]) (cs := [(c0, wc0), (c1, wc1), (c2, wc2), (c3, wc3)]) X T B o1 F2 N2 hrest1 hx hy hf hg hlx hly rfl rfl G1 O1 (.cons (.cons (.cons .nil))) (by repeat (first | exact List.forall_mem_nil _ | refine List.forall_mem_cons.mpr ⟨by k_mem, ?_⟩)) (.cons pc0 (.cons pc1 (.cons pc2 (.cons pc3 .nil)))) (by repeat (first | exact List.forall_mem_nil _ | refine List.forall_mem_cons.mpr ⟨by k_mem, ?_⟩)) ?_
  intro la1 lb1 va1 vb1 tf1 vmb2 vop2 vb2j2 vbj2 vbp2 h2 tk2 F3 N3
  have N4 : News h₀ L h2 ((M, instObj 242 dM) :: (dM, sD w.params tf1 (.ref la1) (.ref lb1) vmb2 vop2 .none vb2j2 vbj2 vbp2) :: (la1, listOf va1 0) :: (lb1, listOf vb1 0) :: (lx, listOf vx.toArray cx) :: (ly, listOf vy.toArray cy) :: (lf, listOf vf.toArray nf) :: (lg, listOf vg.toArray ng) :: (lt, listOf #[.ref t0, .ref t1, .ref t2] n1) :: (lc, listOf #[.ref c0, .ref c1, .ref c2, .ref c3] n2) :: (t0, tup3 (.int 0 ut0) (.int 0 vt0) (.int 1 zt0)) :: (t1, tup3 (.int 2 ut1) (.int 3 vt1) (.int (((xs.length : Int) + (ys.length : Int)) - 1) zt1)) :: (t2, tup3 (.int (((xs.length : Int) + (ys.length : Int)) + 2) ut2) (.int (((xs.length : Int) + (ys.length : Int)) + 2) vt2) (.int 0 zt2)) :: (c0, wc0) :: (c1, wc1) :: (c2, wc2) :: (c3, wc3) :: (I, oI) :: []) := news_sub N3 (by repeat (first | exact List.forall_mem_nil _ | refine List.forall_mem_cons.mpr ⟨by k_mem, ?_⟩))
  refine execs_app ?_
  have F4 := fr_over (S := [(Str.ofString "matcher", .ref M), (Str.ofString "first", .ref lf), (Str.ofString "second", .ref lg), (Str.ofString "x", .ref lx), (Str.ofString "y", .ref ly), (Str.ofString "back", .ref lt), (Str.ofString "back_codes", .ref lc)]) F3 (by repeat (first | exact List.forall_mem_nil _ | refine List.forall_mem_cons.mpr ⟨rfl, ?_⟩))
  have G2 := GmbB.cast (gmbB_G (w := w) m0' m1' m2' (by omega) (by omega) (by omega) (by omega) (by omega)) (bl' := [(0, 0, 1), (2, 3, ((xs.length : Int) + (ys.length : Int)) - 1), (((xs.length : Int) + (ys.length : Int)) + 2, ((xs.length : Int) + (ys.length : Int)) + 2, 0)]) (by rw [hA, hB]; rfl)
  have O2 := OpcB.cast (opcC_G (w := w) (a1 := 2) (b1 := 3) (c1 := ((xs.length : Int) + (ys.length : Int)) - 1) (na := ((xs.length : Int) + (ys.length : Int)) + 2) (nb := ((xs.length : Int) + (ys.length : Int)) + 2) (by omega) (by omega) (by omega) (by omega) (by omega)) (bl' := [(0, 0, 1), (2, 3, ((xs.length : Int) + (ys.length : Int)) - 1), (((xs.length : Int) + (ys.length : Int)) + 2, ((xs.length : Int) + (ys.length : Int)) + 2, 0)]) (ol' := [("equal", 0, 1, 0, 1), ("replace", 1, 2, 1, 3), ("equal", 2, ((xs.length : Int) + (ys.length : Int)) + 1, 3, ((xs.length : Int) + (ys.length : Int)) + 2), ("delete", ((xs.length : Int) + (ys.length : Int)) + 1, ((xs.length : Int) + (ys.length : Int)) + 2, ((xs.length : Int) + (ys.length : Int)) + 2, ((xs.length : Int) + (ys.length : Int)) + 2)]) rfl (by simp only [List.cons.injEq, Prod.mk.injEq, and_true, true_and]; omega)
  refine chk2 (rest := (t0, tup3 (.int 0 ut0) (.int 0 vt0) (.int 1 zt0)) :: (t1, tup3 (.int 2 ut1) (.int 3 vt1) (.int (((xs.length : Int) + (ys.length : Int)) - 1) zt1)) :: (t2, tup3 (.int (((xs.length : Int) + (ys.length : Int)) + 2) ut2) (.int (((xs.length : Int) + (ys.length : Int)) + 2) vt2) (.int 0 zt2)) :: (c0, wc0) :: (c1, wc1) :: (c2, wc2) :: (c3, wc3) :: (I, oI) :: []) (ts := [(t0, tup3 (.int 0 ut0) (.int 0 vt0) (.int 1 zt0)), (t1, tup3 (.int 2 ut1) (.int 3 vt1) (.int (((xs.length : Int) + (ys.length : Int)) - 1) zt1)), (t2, tup3 (.int (((xs.length : Int) + (ys.length : Int)) + 2) ut2) (.int (((xs.length : Int) + (ys.length : Int)) + 2) vt2) (.int 0 zt2))]) (cs := [(c0, wc0), (c1, wc1), (c2, wc2), (c3, wc3)]) X T B o1 F4 N4 hrest2 hx hy hf hg hlx hly rfl rfl G2 O2 (.cons (.cons (.cons .nil))) (by repeat (first | exact List.forall_mem_nil _ | refine List.forall_mem_cons.mpr ⟨by k_mem, ?_⟩)) (.cons pc0 (.cons pc1 (.cons pc2 (.cons pc3 .nil)))) (by repeat (first | exact List.forall_mem_nil _ | refine List.forall_mem_cons.mpr ⟨by k_mem, ?_⟩)) ?_
  intro la2 lb2 va2 vb2 tf2 vmb3 vop3 vb2j3 vbj3 vbp3 h3 tk3 F5 N5
  have F6 := fr_over (S := [(Str.ofString "turn", .int tn tt), (Str.ofString "item", .int item ti), (Str.ofString "x", .ref lx), (Str.ofString "y", .ref ly), (Str.ofString "matcher", .ref M), (Str.ofString "script", .ref ls)]) F5 (by repeat (first | exact List.forall_mem_nil _ | refine List.forall_mem_cons.mpr ⟨rfl, ?_⟩))
  have N6 : News h₀ L h3 ((lx, listOf vx.toArray cx) :: (ly, listOf vy.toArray cy) :: (M, instObj 242 dM) :: (dM, sD w.params tf2 (.ref la2) (.ref lb2) vmb3 vop3 .none vb2j3 vbj3 vbp3) :: (la2, listOf va2 0) :: (lb2, listOf vb2 0) :: (I, oI) :: []) := news_sub N5 (by repeat (first | exact List.forall_mem_nil _ | refine List.forall_mem_cons.mpr ⟨by k_mem, ?_⟩))
  refine next_words X T B hls hns hlen F6 N6 hx hy hlx hly (by omega) q1 ?_
  intro h4 tk4 lx' ly' vx' vy' cx' cy' xs' ys' m4 F7 N7 hx' hy' hw
  exact k h4 tk4 tf2 la2 lb2 va2 vb2 vmb3 vop3 vb2j3 vbj3 vbp3 lx' ly' vx' vy' cx' cy' xs' ys' m4 F7 (news_sub N7 (by repeat (first | exact List.forall_mem_nil _ | refine List.forall_mem_cons.mpr ⟨by k_mem, ?_⟩))) hx' hy' (words_next W hw)
end Mine
end
theorem Mine.flush14 {M : PySem.Model} {A : PySem.Around} {env : PySem.Env} {E : PySem.Value → PySem.Shared → Prop} {Q : PySem.Flow → PySem.Shared → Prop} {s : PySem.Shared} (h : Q .next s) : PySem.wpAny M A (PySem.execs [] env) Q E s := by first | (walk1; exact h) | exact PySem.wpAny_execs_nil h
section
open PySem PySem.W PySem.Calls PyProof.Rows
set_option maxRecDepth 100000
namespace Mine
local macro_rules | `(tactic| k_all) => `(tactic| assumption)
set_option maxHeartbeats 8000000 in
theorem build1 {w : World} {s : Shared} {h₀ base : Heap} {L fa' M ls lx ly : Addr} {mg mb m : Str → Option Value} {mean : ExcName → Option Value} {cd : Value} {Q : Flow → Shared → Prop} {tn item : Int} {tt ti : Tok} {vx vy : List Value} {cx cy : Nat} {xs ys : List Int} {rest : List (Addr × Obj)}
    (X : (K w.params).In h₀) (T : Top qv (looseW qv loose) mean mg mb h₀) (B : Below callerA base [] h₀)
    (F : Fr h₀ L s.heap (over [(Str.ofString "turn", .int tn tt), (Str.ofString "item", .int item ti), (Str.ofString "x", .ref lx), (Str.ofString "y", .ref ly), (Str.ofString "matcher", .ref M), (Str.ofString "script", .ref ls)] m))
    (N : News h₀ L s.heap ((lx, listOf vx.toArray cx) :: (ly, listOf vy.toArray cy) :: rest)) (hx : IntsAre vx xs) (hy : IntsAre vy ys) (hlx : xs.length ≤ 1000) (hly : ys.length ≤ 1000) (q : tn = 1)
    (k : ∀ lf lg vf vg nf ng ltC lcC tC0 tC1 tC2 cC0 cC1 cC2 cC3 ltD lcD tD0 tD1 tD2 cD0 cD1 cD2 cD3 qtC0 qtC1 qtC2 qtD0 qtD1 qtD2 wcC0 wcC1 wcC2 wcC3 wcD0 wcD1 wcD2 wcD3 nC1 nC2 nD1 nD2 h' tk m', Fr h₀ L h' (over (lS ls M lx ly lf lg ltC lcC ltD lcD (.int item ti) (.int tn tt)) m') → News h₀ L h' ((lf, listOf (List.toArray vf) nf) :: (lg, listOf (List.toArray vg) ng) :: (ltC, listOf #[.ref tC0, .ref tC1, .ref tC2] nC1) :: (tC0, qtC0) :: (tC1, qtC1) :: (tC2, qtC2) :: (lcC, listOf #[.ref cC0, .ref cC1, .ref cC2, .ref cC3] nC2) :: (cC0, wcC0) :: (cC1, wcC1) :: (cC2, wcC2) :: (cC3, wcC3) :: (ltD, listOf #[.ref tD0, .ref tD1, .ref tD2] nD1) :: (tD0, qtD0) :: (tD1, qtD1) :: (tD2, qtD2) :: (lcD, listOf #[.ref cD0, .ref cD1, .ref cD2, .ref cD3] nD2) :: (cD0, wcD0) :: (cD1, wcD1) :: (cD2, wcD2) :: (cD3, wcD3) :: (lx, listOf vx.toArray cx) :: (ly, listOf vy.toArray cy) :: rest) → IntsAre vf [item - 1, item - 2] → IntsAre vg [item - 1, item - 3] → Tp qtC0 (0) (0) (1) → Tp qtC1 (2) (3) (((xs.length : Int) + (ys.length : Int)) - 1) → Tp qtC2 (((xs.length : Int) + (ys.length : Int)) + 2) (((xs.length : Int) + (ys.length : Int)) + 2) (0) → Op wcC0 "equal" (0) (1) (0) (1) → Op wcC1 "replace" (1) (2) (1) (3) → Op wcC2 "equal" (2) (((xs.length : Int) + (ys.length : Int)) + 1) (3) (((xs.length : Int) + (ys.length : Int)) + 2) → Op wcC3 "delete" (((xs.length : Int) + (ys.length : Int)) + 1) (((xs.length : Int) + (ys.length : Int)) + 2) (((xs.length : Int) + (ys.length : Int)) + 2) (((xs.length : Int) + (ys.length : Int)) + 2) → Tp qtD0 (0) (0) (1) → Tp qtD1 (3) (2) (((xs.length : Int) + (ys.length : Int)) - 1) → Tp qtD2 (((xs.length : Int) + (ys.length : Int)) + 2) (((xs.length : Int) + (ys.length : Int)) + 2) (0) → Op wcD0 "equal" (0) (1) (0) (1) → Op wcD1 "replace" (1) (3) (1) (2) → Op wcD2 "equal" (3) (((xs.length : Int) + (ys.length : Int)) + 2) (2) (((xs.length : Int) + (ys.length : Int)) + 1) → Op wcD3 "insert" (((xs.length : Int) + (ys.length : Int)) + 2) (((xs.length : Int) + (ys.length : Int)) + 2) (((xs.length : Int) + (ys.length : Int)) + 1) (((xs.length : Int) + (ys.length : Int)) + 2) → Q .next { s with heap := h', toks := tk }) :
    wpAny (model pw w) (callerA.deeper (envL L fa' cd)) (execs LP1 (envL L fa' cd)) Q (fun _ _ => False) s := by
  rw [LP1_eq]
  refine execs_app (bpre X T F N hx hy hlx hly ?_)
  intro lf lg vf vg nf ng ltA lcA tA0 tA1 tA2 wh cA0 cA1 cA2 cA3 cA4 cA5 qtA0 qtA1 qtA2 qwh wcA0 wcA1 wcA2 wcA3 wcA4 wcA5 nA1 nA2 h1 tk1 m1 tz F1 N1 hf hg fA0 fA1 fA2 fwh gA0 gA1 gA2 gA3 gA4 gA5
  refine execs_app (bif2 X T F1 N1 (by omega) ?_)
  intro ltC lcC tC0 tC1 cC0 cC1 cC2 cC3 qtC0 qtC1 wcC0 wcC1 wcC2 wcC3 nC1 nC2 h2 tk2 m2 F2 N2 fC0 fC1 gC0 gC1 gC2 gC3
  refine bif1 X T F2 N2 (by omega) ?_
  intro ltD lcD tD0 tD1 cD0 cD1 cD2 cD3 qtD0 qtD1 wcD0 wcD1 wcD2 wcD3 nD1 nD2 h3 tk3 m3 F3 N3 fD0 fD1 gD0 gD1 gD2 gD3
  have F9 := F3
  have N9 := N3
  exact (k lf lg vf vg nf ng ltC lcC tC0 tC1 wh cC0 cC1 cC2 cC3 ltD lcD tD0 tD1 wh cD0 cD1 cD2 cD3 qtC0 qtC1 qwh qtD0 qtD1 qwh wcC0 wcC1 wcC2 wcC3 wcD0 wcD1 wcD2 wcD3 nC1 nC2 nD1 nD2 _ _ _ (fr_over (S := lS ls M lx ly lf lg ltC lcC ltD lcD (.int item ti) (.int tn tt)) F9 (by repeat (first | exact List.forall_mem_nil _ | refine List.forall_mem_cons.mpr ⟨rfl, ?_⟩))) (news_sub N9 (by repeat (first | exact List.forall_mem_nil _ | (intro p hp; simp only [List.mem_cons, hp, or_true]; done) | refine List.forall_mem_cons.mpr ⟨by k_mem, ?_⟩))) hf hg fC0 fC1 fwh gC0 gC1 gC2 gC3 fD0 fD1 fwh gD0 gD1 gD2 gD3)
end Mine
end
section
open PySem PySem.W PySem.Calls PyProof.Rows
set_option maxRecDepth 100000
namespace Mine
set_option maxHeartbeats 8000000 in
theorem turn1 {w : World} {s : Shared} {h₀ base : Heap} {L fa' M dM ls la0 lb0 lx ly I : Addr} {oI : Obj} {mg mb m : Str → Option Value} {mean : ExcName → Option Value} {cd : Value} {Q : Flow → Shared → Prop} {tn item : Int} {tt ti : Tok} {vx vy vs : List Value} {ca cb cx cy n : Nat} {xs ys ns : List Int} {xa0 xb0 : Array Value} {t : Nat → Tok} {vmb vop vfb vb2j vbj vbp : Value}
    (X : (K w.params).In h₀) (T : Top qv (looseW qv loose) mean mg mb h₀) (B : Below callerA base [] h₀) (hls : h₀.IsList ls vs.toArray) (hns : IntsAre vs ns) (hlen : ns.length ≤ 63) (o1 : @LT.lt Nat _ dM M)
    (F : Fr h₀ L s.heap (over [(Str.ofString "turn", .int tn tt), (Str.ofString "item", .int item ti), (Str.ofString "x", .ref lx), (Str.ofString "y", .ref ly), (Str.ofString "matcher", .ref M), (Str.ofString "script", .ref ls)] m))
    (N : News h₀ L s.heap ((I, oI) :: (M, instObj 242 dM) :: (dM, sD w.params t (.ref la0) (.ref lb0) vmb vop vfb vb2j vbj vbp) :: (la0, listOf xa0 ca) :: (lb0, listOf xb0 cb) :: (lx, listOf vx.toArray cx) :: (ly, listOf vy.toArray cy) :: []))
    (hI : @Ne Nat I dM) (hx : IntsAre vx xs) (hy : IntsAre vy ys) (W : Words item n xs ys) (en : n = 1) (q0 : tn = n) (q1 : tn < 7)
    (k : ∀ h' tk t la lb va vb vmb vop vb2j vbj vbp lx' ly' vx' vy' cx' cy' xs' ys' m', Fr h₀ L h' (over [(Str.ofString "item", .int item ti), (Str.ofString "x", .ref lx'), (Str.ofString "y", .ref ly'), (Str.ofString "matcher", .ref M), (Str.ofString "script", .ref ls)] m') →
      News h₀ L h' ((I, oI) :: (M, instObj 242 dM) :: (dM, sD w.params t (.ref la) (.ref lb) vmb vop .none vb2j vbj vbp) :: (la, listOf va 0) :: (lb, listOf vb 0) :: (lx', listOf (List.toArray vx') cx') :: (ly', listOf (List.toArray vy') cy') :: []) → IntsAre vx' xs' → IntsAre vy' ys' → Words item (n + 1) xs' ys' → Q .next { s with heap := h', toks := tk }) :
    wpAny (model pw w) (callerA.deeper (envL L fa' cd)) (execs LBody (envL L fa' cd)) Q (fun _ _ => False) s := by
  have hlx : xs.length ≤ 1000 := by have := W.hi; omega
  have hly : ys.length ≤ 1000 := by have := W.hi; have := W.le; omega
  rw [LBody_eq]
  refine execs_app ?_
  refine build1 (rest := (M, instObj 242 dM) :: (dM, sD w.params t (.ref la0) (.ref lb0) vmb vop vfb vb2j vbj vbp) :: (la0, listOf xa0 ca) :: (lb0, listOf xb0 cb) :: (I, oI) :: []) X T B F (news_sub N (by repeat (first | exact List.forall_mem_nil _ | refine List.forall_mem_cons.mpr ⟨by k_mem, ?_⟩))) hx hy hlx hly (by omega) ?_
  rintro lf lg vf vg nf ng lt lc t0 t1 t2 c0 c1 c2 c3 ltD lcD tD0 tD1 tD2 cD0 cD1 cD2 cD3 qt0 qt1 qt2 qtD0 qtD1 qtD2 wc0 wc1 wc2 wc3 wcD0 wcD1 wcD2 wcD3 n1 n2 n1D n2D h1 tk1 m1 F1 N1 hf hg ⟨ut0, vt0, zt0, et0⟩ ⟨ut1, vt1, zt1, et1⟩ ⟨ut2, vt2, zt2, et2⟩ pc0 pc1 pc2 pc3 ⟨utD0, vtD0, ztD0, etD0⟩ ⟨utD1, vtD1, ztD1, etD1⟩ ⟨utD2, vtD2, ztD2, etD2⟩ pcD0 pcD1 pcD2 pcD3
  subst et0 et1 et2 etD0 etD1 etD2
  obtain ⟨⟨m0, m1, m2⟩, ⟨m0', m1', m2'⟩, hS⟩ := words1 (en ▸ W)
  have hA := @len_a xs ys (item - 1) (item - 2)
  have hB := @len_b xs ys (item - 1) (item - 3)
  have N2 : News h₀ L h1 ((M, instObj 242 dM) :: (dM, sD w.params t (.ref la0) (.ref lb0) vmb vop vfb vb2j vbj vbp) :: (la0, listOf xa0 ca) :: (lb0, listOf xb0 cb) :: (lx, listOf vx.toArray cx) :: (ly, listOf vy.toArray cy) :: (lf, listOf vf.toArray nf) :: (lg, listOf vg.toArray ng) :: (lt, listOf #[.ref t0, .ref t1, .ref t2] n1) :: (lc, listOf #[.ref c0, .ref c1, .ref c2, .ref c3] n2) :: (t0, tup3 (.int 0 ut0) (.int 0 vt0) (.int 1 zt0)) :: (t1, tup3 (.int 2 ut1) (.int 3 vt1) (.int (((xs.length : Int) + (ys.length : Int)) - 1) zt1)) :: (t2, tup3 (.int (((xs.length : Int) + (ys.length : Int)) + 2) ut2) (.int (((xs.length : Int) + (ys.length : Int)) + 2) vt2) (.int 0 zt2)) :: (c0, wc0) :: (c1, wc1) :: (c2, wc2) :: (c3, wc3) :: (ltD, listOf #[.ref tD0, .ref tD1, .ref tD2] n1D) :: (lcD, listOf #[.ref cD0, .ref cD1, .ref cD2, .ref cD3] n2D) :: (tD0, tup3 (.int 0 utD0) (.int 0 vtD0) (.int 1 ztD0)) :: (tD1, tup3 (.int 3 utD1) (.int 2 vtD1) (.int (((xs.length : Int) + (ys.length : Int)) - 1) ztD1)) :: (tD2, tup3 (.int (((xs.length : Int) + (ys.length : Int)) + 2) utD2) (.int (((xs.length : Int) + (ys.length : Int)) + 2) vtD2) (.int 0 ztD2)) :: (cD0, wcD0) :: (cD1, wcD1) :: (cD2, wcD2) :: (cD3, wcD3) :: (I, oI) :: []) := news_sub N1 (by repeat (first | exact List.forall_mem_nil _ | refine List.forall_mem_cons.mpr ⟨by k_mem, ?_⟩))
  have n_lt : @Ne Nat lt dM := ne_of_cls N2 (by k_mem) (by k_mem) (by first | (intro e; cases e; done) | (intro e; exact absurd (Value.type.inj e) (by decide)))
  have n_t0 : @Ne Nat t0 dM := ne_of_cls N2 (by k_mem) (by k_mem) (by first | (intro e; cases e; done) | (intro e; exact absurd (Value.type.inj e) (by decide)))
  have n_t1 : @Ne Nat t1 dM := ne_of_cls N2 (by k_mem) (by k_mem) (by first | (intro e; cases e; done) | (intro e; exact absurd (Value.type.inj e) (by decide)))
  have n_t2 : @Ne Nat t2 dM := ne_of_cls N2 (by k_mem) (by k_mem) (by first | (intro e; cases e; done) | (intro e; exact absurd (Value.type.inj e) (by decide)))
  have n_lc : @Ne Nat lc dM := ne_of_cls N2 (by k_mem) (by k_mem) (by first | (intro e; cases e; done) | (intro e; exact absurd (Value.type.inj e) (by decide)))
  have n_c0 : @Ne Nat c0 dM := ne_of_cls N2 (by k_mem) (by k_mem) (op_cls pc0)
  have n_c1 : @Ne Nat c1 dM := ne_of_cls N2 (by k_mem) (by k_mem) (op_cls pc1)
  have n_c2 : @Ne Nat c2 dM := ne_of_cls N2 (by k_mem) (by k_mem) (op_cls pc2)
  have n_c3 : @Ne Nat c3 dM := ne_of_cls N2 (by k_mem) (by k_mem) (op_cls pc3)
  have n_ltD : @Ne Nat ltD dM := ne_of_cls N2 (by k_mem) (by k_mem) (by first | (intro e; cases e; done) | (intro e; exact absurd (Value.type.inj e) (by decide)))
  have n_tD0 : @Ne Nat tD0 dM := ne_of_cls N2 (by k_mem) (by k_mem) (by first | (intro e; cases e; done) | (intro e; exact absurd (Value.type.inj e) (by decide)))
  have n_tD1 : @Ne Nat tD1 dM := ne_of_cls N2 (by k_mem) (by k_mem) (by first | (intro e; cases e; done) | (intro e; exact absurd (Value.type.inj e) (by decide)))
  have n_tD2 : @Ne Nat tD2 dM := ne_of_cls N2 (by k_mem) (by k_mem) (by first | (intro e; cases e; done) | (intro e; exact absurd (Value.type.inj e) (by decide)))
  have n_lcD : @Ne Nat lcD dM := ne_of_cls N2 (by k_mem) (by k_mem) (by first | (intro e; cases e; done) | (intro e; exact absurd (Value.type.inj e) (by decide)))
  have n_cD0 : @Ne Nat cD0 dM := ne_of_cls N2 (by k_mem) (by k_mem) (op_cls pcD0)
  have n_cD1 : @Ne Nat cD1 dM := ne_of_cls N2 (by k_mem) (by k_mem) (op_cls pcD1)
  have n_cD2 : @Ne Nat cD2 dM := ne_of_cls N2 (by k_mem) (by k_mem) (op_cls pcD2)
  have n_cD3 : @Ne Nat cD3 dM := ne_of_cls N2 (by k_mem) (by k_mem) (op_cls pcD3)
  have hrest1 : ∀ p ∈ ((t0, tup3 (.int 0 ut0) (.int 0 vt0) (.int 1 zt0)) :: (t1, tup3 (.int 2 ut1) (.int 3 vt1) (.int (((xs.length : Int) + (ys.length : Int)) - 1) zt1)) :: (t2, tup3 (.int (((xs.length : Int) + (ys.length : Int)) + 2) ut2) (.int (((xs.length : Int) + (ys.length : Int)) + 2) vt2) (.int 0 zt2)) :: (c0, wc0) :: (c1, wc1) :: (c2, wc2) :: (c3, wc3) :: (ltD, listOf #[.ref tD0, .ref tD1, .ref tD2] n1D) :: (lcD, listOf #[.ref cD0, .ref cD1, .ref cD2, .ref cD3] n2D) :: (tD0, tup3 (.int 0 utD0) (.int 0 vtD0) (.int 1 ztD0)) :: (tD1, tup3 (.int 3 utD1) (.int 2 vtD1) (.int (((xs.length : Int) + (ys.length : Int)) - 1) ztD1)) :: (tD2, tup3 (.int (((xs.length : Int) + (ys.length : Int)) + 2) utD2) (.int (((xs.length : Int) + (ys.length : Int)) + 2) vtD2) (.int 0 ztD2)) :: (cD0, wcD0) :: (cD1, wcD1) :: (cD2, wcD2) :: (cD3, wcD3) :: (I, oI) :: [] : List (Addr × Obj)), p.1 ≠ dM := by repeat (first | exact List.forall_mem_nil _ | refine List.forall_mem_cons.mpr ⟨by assumption, ?_⟩)
  have hrest2 : ∀ p ∈ ((tD0, tup3 (.int 0 utD0) (.int 0 vtD0) (.int 1 ztD0)) :: (tD1, tup3 (.int 3 utD1) (.int 2 vtD1) (.int (((xs.length : Int) + (ys.length : Int)) - 1) ztD1)) :: (tD2, tup3 (.int (((xs.length : Int) + (ys.length : Int)) + 2) utD2) (.int (((xs.length : Int) + (ys.length : Int)) + 2) vtD2) (.int 0 ztD2)) :: (cD0, wcD0) :: (cD1, wcD1) :: (cD2, wcD2) :: (cD3, wcD3) :: (lt, listOf #[.ref t0, .ref t1, .ref t2] n1) :: (lc, listOf #[.ref c0, .ref c1, .ref c2, .ref c3] n2) :: (t0, tup3 (.int 0 ut0) (.int 0 vt0) (.int 1 zt0)) :: (t1, tup3 (.int 2 ut1) (.int 3 vt1) (.int (((xs.length : Int) + (ys.length : Int)) - 1) zt1)) :: (t2, tup3 (.int (((xs.length : Int) + (ys.length : Int)) + 2) ut2) (.int (((xs.length : Int) + (ys.length : Int)) + 2) vt2) (.int 0 zt2)) :: (c0, wc0) :: (c1, wc1) :: (c2, wc2) :: (c3, wc3) :: (I, oI) :: [] : List (Addr × Obj)), p.1 ≠ dM := by repeat (first | exact List.forall_mem_nil _ | refine List.forall_mem_cons.mpr ⟨by assumption, ?_⟩)
  refine execs_app ?_
  have F2 := fr_over (S := [(Str.ofString "matcher", .ref M), (Str.ofString "first", .ref lf), (Str.ofString "second", .ref lg), (Str.ofString "x", .ref lx), (Str.ofString "y", .ref ly), (Str.ofString "there", .ref lt), (Str.ofString "codes", .ref lc)]) F1 (by repeat (first | exact List.forall_mem_nil _ | refine List.forall_mem_cons.mpr ⟨rfl, ?_⟩))
  have G1 := GmbB.cast (gmbC_G (w := w) m0 m1 m2 (by omega) (by omega) (by omega) (by omega) (by omega)) (bl' := [(0, 0, 1), (2, 3, ((xs.length : Int) + (ys.length : Int)) - 1), (((xs.length : Int) + (ys.length : Int)) + 2, ((xs.length : Int) + (ys.length : Int)) + 2, 0)]) (by rw [hA, hB]; rfl)
  have O1 := OpcB.cast (opcC_G (w := w) (a1 := 2) (b1 := 3) (c1 := ((xs.length : Int) + (ys.length : Int)) - 1) (na := ((xs.length : Int) + (ys.length : Int)) + 2) (nb := ((xs.length : Int) + (ys.length : Int)) + 2) (by omega) (by omega) (by omega) (by omega) (by omega)) (bl' := [(0, 0, 1), (2, 3, ((xs.length : Int) + (ys.length : Int)) - 1), (((xs.length : Int) + (ys.length : Int)) + 2, ((xs.length : Int) + (ys.length : Int)) + 2, 0)]) (ol' := [("equal", 0, 1, 0, 1), ("replace", 1, 2, 1, 3), ("equal", 2, ((xs.length : Int) + (ys.length : Int)) + 1, 3, ((xs.length : Int) + (ys.length : Int)) + 2), ("delete", ((xs.length : Int) + (ys.length : Int)) + 1, ((xs.length : Int) + (ys.length : Int)) + 2, ((xs.length : Int) + (ys.length : Int)) + 2, ((xs.length : Int) + (ys.length : Int)) + 2)]) rfl (by simp only [List.cons.injEq, Prod.mk.injEq, and_true, true_and]; omega)
  refine chk1 (rest := (t0, tup3 (.int 0 ut0) (.int 0 vt0) (.int 1 zt0)) :: (t1, tup3 (.int 2 ut1) (.int 3 vt1) (.int (((xs.length : Int) + (ys.length : Int)) - 1) zt1)) :: (t2, tup3 (.int (((xs.length : Int) + (ys.length : Int)) + 2) ut2) (.int (((xs.length : Int) + (ys.length : Int)) + 2) vt2) (.int 0 zt2)) :: (c0, wc0) :: (c1, wc1) :: (c2, wc2) :: (c3, wc3) :: (ltD, listOf #[.ref tD0, .ref tD1, .ref tD2] n1D) :: (lcD, listOf #[.ref cD0, .ref cD1, .ref cD2, .ref cD3] n2D) :: (tD0, tup3 (.int 0 utD0) (.int 0 vtD0) (.int 1 ztD0)) :: (tD1, tup3 (.int 3 utD1) (.int 2 vtD1) (.int (((xs.length : Int) + (ys.length : Int)) - 1) ztD1)) :: (tD2, tup3 (.int (((xs.length : Int) + (ys.length : Int)) + 2) utD2) (.int (((xs.length : Int) + (ys.length : Int)) + 2) vtD2) (.int 0 ztD2)) :: (cD0, wcD0) :: (cD1, wcD1) :: (cD2, wcD2) :: (cD3, wcD3) :: (I, oI) :: []) (ts := [(t0, tup3 (.int 0 ut0) (.int 0 vt0) (.int 1 zt0)), (t1, tup3 (.int 2 ut1) (.int 3 vt1) (.int (((xs.length : Int) + (ys.length : Int)) - 1) zt1)), (t2, tup3 (.int (((xs.length : Int) + (ys.length : Int)) + 2) ut2) (.int (((xs.length : Int) + (ys.length : Int)) + 2) vt2) (.int 0 zt2))]) (cs := [(c0, wc0), (c1, wc1), (c2, wc2), (c3, wc3)]) X T B o1 F2 N2 hrest1 hx hy hf hg hlx hly rfl rfl G1 O1 (.cons (.cons (.cons .nil))) (by repeat (first | exact List.forall_mem_nil _ | refine List.forall_mem_cons.mpr ⟨by k_mem, ?_⟩)) (.cons pc0 (.cons pc1 (.cons pc2 (.cons pc3 .nil)))) (by repeat (first | exact List.forall_mem_nil _ | refine List.forall_mem_cons.mpr ⟨by k_mem, ?_⟩)) ?_
  intro la1 lb1 va1 vb1 tf1 vmb2 vop2 vb2j2 vbj2 vbp2 h2 tk2 F3 N3
  have N4 : News h₀ L h2 ((M, instObj 242 dM) :: (dM, sD w.params tf1 (.ref la1) (.ref lb1) vmb2 vop2 .none vb2j2 vbj2 vbp2) :: (la1, listOf va1 0) :: (lb1, listOf vb1 0) :: (lx, listOf vx.toArray cx) :: (ly, listOf vy.toArray cy) :: (lf, listOf vf.toArray nf) :: (lg, listOf vg.toArray ng) :: (ltD, listOf #[.ref tD0, .ref tD1, .ref tD2] n1D) :: (lcD, listOf #[.ref cD0, .ref cD1, .ref cD2, .ref cD3] n2D) :: (tD0, tup3 (.int 0 utD0) (.int 0 vtD0) (.int 1 ztD0)) :: (tD1, tup3 (.int 3 utD1) (.int 2 vtD1) (.int (((xs.length : Int) + (ys.length : Int)) - 1) ztD1)) :: (tD2, tup3 (.int (((xs.length : Int) + (ys.length : Int)) + 2) utD2) (.int (((xs.length : Int) + (ys.length : Int)) + 2) vtD2) (.int 0 ztD2)) :: (cD0, wcD0) :: (cD1, wcD1) :: (cD2, wcD2) :: (cD3, wcD3) :: (lt, listOf #[.ref t0, .ref t1, .ref t2] n1) :: (lc, listOf #[.ref c0, .ref c1, .ref c2, .ref c3] n2) :: (t0, tup3 (.int 0 ut0) (.int 0 vt0) (.int 1 zt0)) :: (t1, tup3 (.int 2 ut1) (.int 3 vt1) (.int (((xs.length : Int) + (ys.length : Int)) - 1) zt1)) :: (t2, tup3 (.int (((xs.length : Int) + (ys.length : Int)) + 2) ut2) (.int (((xs.length : Int) + (ys.length : Int)) + 2) vt2) (.int 0 zt2)) :: (c0, wc0) :: (c1, wc1) :: (c2, wc2) :: (c3, wc3) :: (I, oI) :: []) := news_sub N3 (by repeat (first | exact List.forall_mem_nil _ | refine List.forall_mem_cons.mpr ⟨by k_mem, ?_⟩))
  refine execs_app ?_
  have F4 := fr_over (S := [(Str.ofString "matcher", .ref M), (Str.ofString "first", .ref lf), (Str.ofString "second", .ref lg), (Str.ofString "x", .ref lx), (Str.ofString "y", .ref ly), (Str.ofString "back", .ref ltD), (Str.ofString "back_codes", .ref lcD)]) F3 (by repeat (first | exact List.forall_mem_nil _ | refine List.forall_mem_cons.mpr ⟨rfl, ?_⟩))
  have G2 := GmbB.cast (gmbD_G (w := w) m0' m1' m2' (by omega) (by omega) (by omega) (by omega) (by omega)) (bl' := [(0, 0, 1), (3, 2, ((xs.length : Int) + (ys.length : Int)) - 1), (((xs.length : Int) + (ys.length : Int)) + 2, ((xs.length : Int) + (ys.length : Int)) + 2, 0)]) (by rw [hA, hB]; rfl)
  have O2 := OpcB.cast (opcD_G (w := w) (a1 := 3) (b1 := 2) (c1 := ((xs.length : Int) + (ys.length : Int)) - 1) (na := ((xs.length : Int) + (ys.length : Int)) + 2) (nb := ((xs.length : Int) + (ys.length : Int)) + 2) (by omega) (by omega) (by omega) (by omega) (by omega)) (bl' := [(0, 0, 1), (3, 2, ((xs.length : Int) + (ys.length : Int)) - 1), (((xs.length : Int) + (ys.length : Int)) + 2, ((xs.length : Int) + (ys.length : Int)) + 2, 0)]) (ol' := [("equal", 0, 1, 0, 1), ("replace", 1, 3, 1, 2), ("equal", 3, ((xs.length : Int) + (ys.length : Int)) + 2, 2, ((xs.length : Int) + (ys.length : Int)) + 1), ("insert", ((xs.length : Int) + (ys.length : Int)) + 2, ((xs.length : Int) + (ys.length : Int)) + 2, ((xs.length : Int) + (ys.length : Int)) + 1, ((xs.length : Int) + (ys.length : Int)) + 2)]) rfl (by simp only [List.cons.injEq, Prod.mk.injEq, and_true, true_and]; omega)
  refine chk2 (rest := (tD0, tup3 (.int 0 utD0) (.int 0 vtD0) (.int 1 ztD0)) :: (tD1, tup3 (.int 3 utD1) (.int 2 vtD1) (.int (((xs.length : Int) + (ys.length : Int)) - 1) ztD1)) :: (tD2, tup3 (.int (((xs.length : Int) + (ys.length : Int)) + 2) utD2) (.int (((xs.length : Int) + (ys.length : Int)) + 2) vtD2) (.int 0 ztD2)) :: (cD0, wcD0) :: (cD1, wcD1) :: (cD2, wcD2) :: (cD3, wcD3) :: (lt, listOf #[.ref t0, .ref t1, .ref t2] n1) :: (lc, listOf #[.ref c0, .ref c1, .ref c2, .ref c3] n2) :: (t0, tup3 (.int 0 ut0) (.int 0 vt0) (.int 1 zt0)) :: (t1, tup3 (.int 2 ut1) (.int 3 vt1) (.int (((xs.length : Int) + (ys.length : Int)) - 1) zt1)) :: (t2, tup3 (.int (((xs.length : Int) + (ys.length : Int)) + 2) ut2) (.int (((xs.length : Int) + (ys.length : Int)) + 2) vt2) (.int 0 zt2)) :: (c0, wc0) :: (c1, wc1) :: (c2, wc2) :: (c3, wc3) :: (I, oI) :: []) (ts := [(tD0, tup3 (.int 0 utD0) (.int 0 vtD0) (.int 1 ztD0)), (tD1, tup3 (.int 3 utD1) (.int 2 vtD1) (.int (((xs.length : Int) + (ys.length : Int)) - 1) ztD1)), (tD2, tup3 (.int (((xs.length : Int) + (ys.length : Int)) + 2) utD2) (.int (((xs.length : Int) + (ys.length : Int)) + 2) vtD2) (.int 0 ztD2))]) (cs := [(cD0, wcD0), (cD1, wcD1), (cD2, wcD2), (cD3, wcD3)]) X T B o1 F4 N4 hrest2 hx hy hf hg hlx hly rfl rfl G2 O2 (.cons (.cons (.cons .nil))) (by repeat (first | exact List.forall_mem_nil _ | refine List.forall_mem_cons.mpr ⟨by k_mem, ?_⟩)) (.cons pcD0 (.cons pcD1 (.cons pcD2 (.cons pcD3 .nil)))) (by repeat (first | exact List.forall_mem_nil _ | refine List.forall_mem_cons.mpr ⟨by k_mem, ?_⟩)) ?_
  intro la2 lb2 va2 vb2 tf2 vmb3 vop3 vb2j3 vbj3 vbp3 h3 tk3 F5 N5
  have F6 := fr_over (S := [(Str.ofString "turn", .int tn tt), (Str.ofString "item", .int item ti), (Str.ofString "x", .ref lx), (Str.ofString "y", .ref ly), (Str.ofString "matcher", .ref M), (Str.ofString "script", .ref ls)]) F5 (by repeat (first | exact List.forall_mem_nil _ | refine List.forall_mem_cons.mpr ⟨rfl, ?_⟩))
  have N6 : News h₀ L h3 ((lx, listOf vx.toArray cx) :: (ly, listOf vy.toArray cy) :: (M, instObj 242 dM) :: (dM, sD w.params tf2 (.ref la2) (.ref lb2) vmb3 vop3 .none vb2j3 vbj3 vbp3) :: (la2, listOf va2 0) :: (lb2, listOf vb2 0) :: (I, oI) :: []) := news_sub N5 (by repeat (first | exact List.forall_mem_nil _ | refine List.forall_mem_cons.mpr ⟨by k_mem, ?_⟩))
  refine next_words X T B hls hns hlen F6 N6 hx hy hlx hly (by omega) q1 ?_
  intro h4 tk4 lx' ly' vx' vy' cx' cy' xs' ys' m4 F7 N7 hx' hy' hw
  exact k h4 tk4 tf2 la2 lb2 va2 vb2 vmb3 vop3 vb2j3 vbj3 vbp3 lx' ly' vx' vy' cx' cy' xs' ys' m4 F7 (news_sub N7 (by repeat (first | exact List.forall_mem_nil _ | refine List.forall_mem_cons.mpr ⟨by k_mem, ?_⟩))) hx' hy' (words_next W hw)
end Mine
end
theorem Mine.flush15 {M : PySem.Model} {A : PySem.Around} {env : PySem.Env} {E : PySem.Value → PySem.Shared → Prop} {Q : PySem.Flow → PySem.Shared → Prop} {s : PySem.Shared} (h : Q .next s) : PySem.wpAny M A (PySem.execs [] env) Q E s := by first | (walk1; exact h) | exact PySem.wpAny_execs_nil h
section
open PySem PySem.W PySem.Calls PyProof.Rows
set_option maxRecDepth 100000
namespace Mine
local macro_rules | `(tactic| k_all) => `(tactic| assumption)
set_option maxHeartbeats 8000000 in
theorem build2 {w : World} {s : Shared} {h₀ base : Heap} {L fa' M ls lx ly : Addr} {mg mb m : Str → Option Value} {mean : ExcName → Option Value} {cd : Value} {Q : Flow → Shared → Prop} {tn item : Int} {tt ti : Tok} {vx vy : List Value} {cx cy : Nat} {xs ys : List Int} {rest : List (Addr × Obj)}
    (X : (K w.params).In h₀) (T : Top qv (looseW qv loose) mean mg mb h₀) (B : Below callerA base [] h₀)
    (F : Fr h₀ L s.heap (over [(Str.ofString "turn", .int tn tt), (Str.ofString "item", .int item ti), (Str.ofString "x", .ref lx), (Str.ofString "y", .ref ly), (Str.ofString "matcher", .ref M), (Str.ofString "script", .ref ls)] m))
    (N : News h₀ L s.heap ((lx, listOf vx.toArray cx) :: (ly, listOf vy.toArray cy) :: rest)) (hx : IntsAre vx xs) (hy : IntsAre vy ys) (hlx : xs.length ≤ 1000) (hly : ys.length ≤ 1000) (q : 2 ≤ tn)
    (k : ∀ lf lg vf vg nf ng ltA lcA tA0 tA1 tA2 tA3 cA0 cA1 cA2 cA3 cA4 cA5 qtA0 qtA1 qtA2 qtA3 wcA0 wcA1 wcA2 wcA3 wcA4 wcA5 nA1 nA2 h' tk m', Fr h₀ L h' (over (lS ls M lx ly lf lg ltA lcA ltA lcA (.int item ti) (.int tn tt)) m') → News h₀ L h' ((lf, listOf (List.toArray vf) nf) :: (lg, listOf (List.toArray vg) ng) :: (ltA, listOf #[.ref tA0, .ref tA1, .ref tA2, .ref tA3] nA1) :: (tA0, qtA0) :: (tA1, qtA1) :: (tA2, qtA2) :: (tA3, qtA3) :: (lcA, listOf #[.ref cA0, .ref cA1, .ref cA2, .ref cA3, .ref cA4, .ref cA5] nA2) :: (cA0, wcA0) :: (cA1, wcA1) :: (cA2, wcA2) :: (cA3, wcA3) :: (cA4, wcA4) :: (cA5, wcA5) :: (lx, listOf vx.toArray cx) :: (ly, listOf vy.toArray cy) :: rest) → IntsAre vf [item - 1, item - 2] → IntsAre vg [item - 1, item - 3] → Tp qtA0 (0) (0) (1) → Tp qtA1 (2) (2) (((xs.length : Int) + (ys.length : Int)) - 2) → Tp qtA2 (((xs.length : Int) + (ys.length : Int))) (((xs.length : Int) + (ys.length : Int)) + 1) (1) → Tp qtA3 (((xs.length : Int) + (ys.length : Int)) + 2) (((xs.length : Int) + (ys.length : Int)) + 2) (0) → Op wcA0 "equal" (0) (1) (0) (1) → Op wcA1 "replace" (1) (2) (1) (2) → Op wcA2 "equal" (2) (((xs.length : Int) + (ys.length : Int))) (2) (((xs.length : Int) + (ys.length : Int))) → Op wcA3 "insert" (((xs.length : Int) + (ys.length : Int))) (((xs.length : Int) + (ys.length : Int))) (((xs.length : Int) + (ys.length : Int))) (((xs.length : Int) + (ys.length : Int)) + 1) → Op wcA4 "equal" (((xs.length : Int) + (ys.length : Int))) (((xs.length : Int) + (ys.length : Int)) + 1) (((xs.length : Int) + (ys.length : Int)) + 1) (((xs.length : Int) + (ys.length : Int)) + 2) → Op wcA5 "delete" (((xs.length : Int) + (ys.length : Int)) + 1) (((xs.length : Int) + (ys.length : Int)) + 2) (((xs.length : Int) + (ys.length : Int)) + 2) (((xs.length : Int) + (ys.length : Int)) + 2) → Q .next { s with heap := h', toks := tk }) :
    wpAny (model pw w) (callerA.deeper (envL L fa' cd)) (execs LP1 (envL L fa' cd)) Q (fun _ _ => False) s := by
  rw [LP1_eq]
  refine execs_app (bpre X T F N hx hy hlx hly ?_)
  intro lf lg vf vg nf ng ltA lcA tA0 tA1 tA2 wh cA0 cA1 cA2 cA3 cA4 cA5 qtA0 qtA1 qtA2 qwh wcA0 wcA1 wcA2 wcA3 wcA4 wcA5 nA1 nA2 h1 tk1 m1 tz F1 N1 hf hg fA0 fA1 fA2 fwh gA0 gA1 gA2 gA3 gA4 gA5
  rw [show LPb ++ LPc = LP1.drop 8 from by
    show (LP1.drop 8).take 1 ++ LP1.drop 9 = LP1.drop 8
    generalize LP1 = l
    have := List.take_append_drop 1 (l.drop 8)
    rwa [List.drop_drop] at this]
  conv in (LP1.drop 8) => whnf
  show wpAny _ _ (execs _ _) _ _ _
  obtain ⟨hp, gn, dr, tk, os⟩ := s
  dsimp only at F1 N1 k ⊢
  repeat' (first | ((with_reducible show wpAny _ _ (execs _ _) _ _ _); exfalso; omega) | ((first | (k_here; (with_reducible show wpAny _ _ (call (Value.builtin "len") _) _ _ _); k_dflt (refine len_led (by k_asm) (by k_mem) (by assumption) (by assumption) ?_); intro t') | walk1); all_goals (try dsimp only); all_goals (try ((with_reducible refine wp_tok ?_); intro tk))) | (dsimp only; (first | (k_here; (with_reducible show wpAny _ _ (call (Value.builtin "len") _) _ _ _); k_dflt (refine len_led (by k_asm) (by k_mem) (by assumption) (by assumption) ?_); intro t') | walk1)))
  have F9 := F1
  have N9 := N1
  exact wpAny_pure (k lf lg vf vg nf ng ltA lcA tA0 tA1 tA2 wh cA0 cA1 cA2 cA3 cA4 cA5 qtA0 qtA1 qtA2 qwh wcA0 wcA1 wcA2 wcA3 wcA4 wcA5 nA1 nA2 _ _ _ (fr_over (S := lS ls M lx ly lf lg ltA lcA ltA lcA (.int item ti) (.int tn tt)) F9 (by repeat (first | exact List.forall_mem_nil _ | refine List.forall_mem_cons.mpr ⟨rfl, ?_⟩))) (news_sub N9 (by repeat (first | exact List.forall_mem_nil _ | (intro p hp; simp only [List.mem_cons, hp, or_true]; done) | refine List.forall_mem_cons.mpr ⟨by k_mem, ?_⟩))) hf hg fA0 fA1 fA2 fwh gA0 gA1 gA2 gA3 gA4 gA5)
end Mine
end
section
open PySem PySem.W PySem.Calls PyProof.Rows
set_option maxRecDepth 100000
namespace Mine
set_option maxHeartbeats 8000000 in
theorem turn2 {w : World} {s : Shared} {h₀ base : Heap} {L fa' M dM ls la0 lb0 lx ly I : Addr} {oI : Obj} {mg mb m : Str → Option Value} {mean : ExcName → Option Value} {cd : Value} {Q : Flow → Shared → Prop} {tn item : Int} {tt ti : Tok} {vx vy vs : List Value} {ca cb cx cy n : Nat} {xs ys ns : List Int} {xa0 xb0 : Array Value} {t : Nat → Tok} {vmb vop vfb vb2j vbj vbp : Value}
    (X : (K w.params).In h₀) (T : Top qv (looseW qv loose) mean mg mb h₀) (B : Below callerA base [] h₀) (hls : h₀.IsList ls vs.toArray) (hns : IntsAre vs ns) (hlen : ns.length ≤ 63) (o1 : @LT.lt Nat _ dM M)
    (F : Fr h₀ L s.heap (over [(Str.ofString "turn", .int tn tt), (Str.ofString "item", .int item ti), (Str.ofString "x", .ref lx), (Str.ofString "y", .ref ly), (Str.ofString "matcher", .ref M), (Str.ofString "script", .ref ls)] m))
    (N : News h₀ L s.heap ((I, oI) :: (M, instObj 242 dM) :: (dM, sD w.params t (.ref la0) (.ref lb0) vmb vop vfb vb2j vbj vbp) :: (la0, listOf xa0 ca) :: (lb0, listOf xb0 cb) :: (lx, listOf vx.toArray cx) :: (ly, listOf vy.toArray cy) :: []))
    (hI : @Ne Nat I dM) (hx : IntsAre vx xs) (hy : IntsAre vy ys) (W : Words item n xs ys) (en : 2 ≤ n) (q0 : tn = n) (q1 : tn < 7)
    (k : ∀ h' tk t la lb va vb vmb vop vb2j vbj vbp lx' ly' vx' vy' cx' cy' xs' ys' m', Fr h₀ L h' (over [(Str.ofString "item", .int item ti), (Str.ofString "x", .ref lx'), (Str.ofString "y", .ref ly'), (Str.ofString "matcher", .ref M), (Str.ofString "script", .ref ls)] m') →
      News h₀ L h' ((I, oI) :: (M, instObj 242 dM) :: (dM, sD w.params t (.ref la) (.ref lb) vmb vop .none vb2j vbj vbp) :: (la, listOf va 0) :: (lb, listOf vb 0) :: (lx', listOf (List.toArray vx') cx') :: (ly', listOf (List.toArray vy') cy') :: []) → IntsAre vx' xs' → IntsAre vy' ys' → Words item (n + 1) xs' ys' → Q .next { s with heap := h', toks := tk }) :
    wpAny (model pw w) (callerA.deeper (envL L fa' cd)) (execs LBody (envL L fa' cd)) Q (fun _ _ => False) s := by
  have hlx : xs.length ≤ 1000 := by have := W.hi; omega
  have hly : ys.length ≤ 1000 := by have := W.hi; have := W.le; omega
  rw [LBody_eq]
  refine execs_app ?_
  refine build2 (rest := (M, instObj 242 dM) :: (dM, sD w.params t (.ref la0) (.ref lb0) vmb vop vfb vb2j vbj vbp) :: (la0, listOf xa0 ca) :: (lb0, listOf xb0 cb) :: (I, oI) :: []) X T B F (news_sub N (by repeat (first | exact List.forall_mem_nil _ | refine List.forall_mem_cons.mpr ⟨by k_mem, ?_⟩))) hx hy hlx hly (by omega) ?_
  rintro lf lg vf vg nf ng lt lc t0 t1 t2 t3 c0 c1 c2 c3 c4 c5 qt0 qt1 qt2 qt3 wc0 wc1 wc2 wc3 wc4 wc5 n1 n2 h1 tk1 m1 F1 N1 hf hg ⟨ut0, vt0, zt0, et0⟩ ⟨ut1, vt1, zt1, et1⟩ ⟨ut2, vt2, zt2, et2⟩ ⟨ut3, vt3, zt3, et3⟩ pc0 pc1 pc2 pc3 pc4 pc5
  subst et0 et1 et2 et3
  obtain ⟨⟨m0, m1, m2, m3⟩, ⟨m0', m1', m2', m3'⟩, hS⟩ := words2 W en
  have hA := @len_a xs ys (item - 1) (item - 2)
  have hB := @len_b xs ys (item - 1) (item - 3)
  have N2 : News h₀ L h1 ((M, instObj 242 dM) :: (dM, sD w.params t (.ref la0) (.ref lb0) vmb vop vfb vb2j vbj vbp) :: (la0, listOf xa0 ca) :: (lb0, listOf xb0 cb) :: (lx, listOf vx.toArray cx) :: (ly, listOf vy.toArray cy) :: (lf, listOf vf.toArray nf) :: (lg, listOf vg.toArray ng) :: (lt, listOf #[.ref t0, .ref t1, .ref t2, .ref t3] n1) :: (lc, listOf #[.ref c0, .ref c1, .ref c2, .ref c3, .ref c4, .ref c5] n2) :: (t0, tup3 (.int 0 ut0) (.int 0 vt0) (.int 1 zt0)) :: (t1, tup3 (.int 2 ut1) (.int 2 vt1) (.int (((xs.length : Int) + (ys.length : Int)) - 2) zt1)) :: (t2, tup3 (.int ((xs.length : Int) + (ys.length : Int)) ut2) (.int (((xs.length : Int) + (ys.length : Int)) + 1) vt2) (.int 1 zt2)) :: (t3, tup3 (.int (((xs.length : Int) + (ys.length : Int)) + 2) ut3) (.int (((xs.length : Int) + (ys.length : Int)) + 2) vt3) (.int 0 zt3)) :: (c0, wc0) :: (c1, wc1) :: (c2, wc2) :: (c3, wc3) :: (c4, wc4) :: (c5, wc5) :: (I, oI) :: []) := news_sub N1 (by repeat (first | exact List.forall_mem_nil _ | refine List.forall_mem_cons.mpr ⟨by k_mem, ?_⟩))
  have n_lt : @Ne Nat lt dM := ne_of_cls N2 (by k_mem) (by k_mem) (by first | (intro e; cases e; done) | (intro e; exact absurd (Value.type.inj e) (by decide)))
  have n_t0 : @Ne Nat t0 dM := ne_of_cls N2 (by k_mem) (by k_mem) (by first | (intro e; cases e; done) | (intro e; exact absurd (Value.type.inj e) (by decide)))
  have n_t1 : @Ne Nat t1 dM := ne_of_cls N2 (by k_mem) (by k_mem) (by first | (intro e; cases e; done) | (intro e; exact absurd (Value.type.inj e) (by decide)))
  have n_t2 : @Ne Nat t2 dM := ne_of_cls N2 (by k_mem) (by k_mem) (by first | (intro e; cases e; done) | (intro e; exact absurd (Value.type.inj e) (by decide)))
  have n_t3 : @Ne Nat t3 dM := ne_of_cls N2 (by k_mem) (by k_mem) (by first | (intro e; cases e; done) | (intro e; exact absurd (Value.type.inj e) (by decide)))
  have n_lc : @Ne Nat lc dM := ne_of_cls N2 (by k_mem) (by k_mem) (by first | (intro e; cases e; done) | (intro e; exact absurd (Value.type.inj e) (by decide)))
  have n_c0 : @Ne Nat c0 dM := ne_of_cls N2 (by k_mem) (by k_mem) (op_cls pc0)
  have n_c1 : @Ne Nat c1 dM := ne_of_cls N2 (by k_mem) (by k_mem) (op_cls pc1)
  have n_c2 : @Ne Nat c2 dM := ne_of_cls N2 (by k_mem) (by k_mem) (op_cls pc2)
  have n_c3 : @Ne Nat c3 dM := ne_of_cls N2 (by k_mem) (by k_mem) (op_cls pc3)
  have n_c4 : @Ne Nat c4 dM := ne_of_cls N2 (by k_mem) (by k_mem) (op_cls pc4)
  have n_c5 : @Ne Nat c5 dM := ne_of_cls N2 (by k_mem) (by k_mem) (op_cls pc5)
  have hrest1 : ∀ p ∈ ((t0, tup3 (.int 0 ut0) (.int 0 vt0) (.int 1 zt0)) :: (t1, tup3 (.int 2 ut1) (.int 2 vt1) (.int (((xs.length : Int) + (ys.length : Int)) - 2) zt1)) :: (t2, tup3 (.int ((xs.length : Int) + (ys.length : Int)) ut2) (.int (((xs.length : Int) + (ys.length : Int)) + 1) vt2) (.int 1 zt2)) :: (t3, tup3 (.int (((xs.length : Int) + (ys.length : Int)) + 2) ut3) (.int (((xs.length : Int) + (ys.length : Int)) + 2) vt3) (.int 0 zt3)) :: (c0, wc0) :: (c1, wc1) :: (c2, wc2) :: (c3, wc3) :: (c4, wc4) :: (c5, wc5) :: (I, oI) :: [] : List (Addr × Obj)), p.1 ≠ dM := by repeat (first | exact List.forall_mem_nil _ | refine List.forall_mem_cons.mpr ⟨by assumption, ?_⟩)
  have hrest2 : ∀ p ∈ ((t0, tup3 (.int 0 ut0) (.int 0 vt0) (.int 1 zt0)) :: (t1, tup3 (.int 2 ut1) (.int 2 vt1) (.int (((xs.length : Int) + (ys.length : Int)) - 2) zt1)) :: (t2, tup3 (.int ((xs.length : Int) + (ys.length : Int)) ut2) (.int (((xs.length : Int) + (ys.length : Int)) + 1) vt2) (.int 1 zt2)) :: (t3, tup3 (.int (((xs.length : Int) + (ys.length : Int)) + 2) ut3) (.int (((xs.length : Int) + (ys.length : Int)) + 2) vt3) (.int 0 zt3)) :: (c0, wc0) :: (c1, wc1) :: (c2, wc2) :: (c3, wc3) :: (c4, wc4) :: (c5, wc5) :: (I, oI) :: [] : List (Addr × Obj)), p.1 ≠ dM := by repeat (first | exact List.forall_mem_nil _ | refine List.forall_mem_cons.mpr ⟨by assumption, ?_⟩)
  refine execs_app ?_
  have F2 := fr_over (S := [(Str.ofString "matcher", .ref M), (Str.ofString "first", .ref lf), (Str.ofString "second", .ref lg), (Str.ofString "x", .ref lx), (Str.ofString "y", .ref ly), (Str.ofString "there", .ref lt), (Str.ofString "codes", .ref lc)]) F1 (by repeat (first | exact List.forall_mem_nil _ | refine List.forall_mem_cons.mpr ⟨rfl, ?_⟩))
  have G1 := GmbB.cast (gmbA_G (w := w) m0 m1 m2 m3 (by omega) (by omega) (by omega) (by omega) (by omega) (by omega) (by omega) (by omega)) (bl' := [(0, 0, 1), (2, 2, ((xs.length : Int) + (ys.length : Int)) - 2), (((xs.length : Int) + (ys.length : Int)), ((xs.length : Int) + (ys.length : Int)) + 1, 1), (((xs.length : Int) + (ys.length : Int)) + 2, ((xs.length : Int) + (ys.length : Int)) + 2, 0)]) (by rw [hA, hB]; rfl)
  have O1 := OpcB.cast (opcA_G (w := w) (a1 := 2) (b1 := 2) (c1 := ((xs.length : Int) + (ys.length : Int)) - 2) (a2 := ((xs.length : Int) + (ys.length : Int))) (b2 := ((xs.length : Int) + (ys.length : Int)) + 1) (c2 := 1) (na := ((xs.length : Int) + (ys.length : Int)) + 2) (nb := ((xs.length : Int) + (ys.length : Int)) + 2) (by omega) (by omega) (by omega) (by omega) (by omega) (by omega) (by omega) (by omega)) (bl' := [(0, 0, 1), (2, 2, ((xs.length : Int) + (ys.length : Int)) - 2), (((xs.length : Int) + (ys.length : Int)), ((xs.length : Int) + (ys.length : Int)) + 1, 1), (((xs.length : Int) + (ys.length : Int)) + 2, ((xs.length : Int) + (ys.length : Int)) + 2, 0)]) (ol' := [("equal", 0, 1, 0, 1), ("replace", 1, 2, 1, 2), ("equal", 2, ((xs.length : Int) + (ys.length : Int)), 2, ((xs.length : Int) + (ys.length : Int))), ("insert", ((xs.length : Int) + (ys.length : Int)), ((xs.length : Int) + (ys.length : Int)), ((xs.length : Int) + (ys.length : Int)), ((xs.length : Int) + (ys.length : Int)) + 1), ("equal", ((xs.length : Int) + (ys.length : Int)), ((xs.length : Int) + (ys.length : Int)) + 1, ((xs.length : Int) + (ys.length : Int)) + 1, ((xs.length : Int) + (ys.length : Int)) + 2), ("delete", ((xs.length : Int) + (ys.length : Int)) + 1, ((xs.length : Int) + (ys.length : Int)) + 2, ((xs.length : Int) + (ys.length : Int)) + 2, ((xs.length : Int) + (ys.length : Int)) + 2)]) rfl (by simp only [List.cons.injEq, Prod.mk.injEq, and_true, true_and]; omega)
  refine chk1 (rest := (t0, tup3 (.int 0 ut0) (.int 0 vt0) (.int 1 zt0)) :: (t1, tup3 (.int 2 ut1) (.int 2 vt1) (.int (((xs.length : Int) + (ys.length : Int)) - 2) zt1)) :: (t2, tup3 (.int ((xs.length : Int) + (ys.length : Int)) ut2) (.int (((xs.length : Int) + (ys.length : Int)) + 1) vt2) (.int 1 zt2)) :: (t3, tup3 (.int (((xs.length : Int) + (ys.length : Int)) + 2) ut3) (.int (((xs.length : Int) + (ys.length : Int)) + 2) vt3) (.int 0 zt3)) :: (c0, wc0) :: (c1, wc1) :: (c2, wc2) :: (c3, wc3) :: (c4, wc4) :: (c5, wc5) :: (I, oI) :: []) (ts := [(t0, tup3 (.int 0 ut0) (.int 0 vt0) (.int 1 zt0)), (t1, tup3 (.int 2 ut1) (.int 2 vt1) (.int (((xs.length : Int) + (ys.length : Int)) - 2) zt1)), (t2, tup3 (.int ((xs.length : Int) + (ys.length : Int)) ut2) (.int (((xs.length : Int) + (ys.length : Int)) + 1) vt2) (.int 1 zt2)), (t3, tup3 (.int (((xs.length : Int) + (ys.length : Int)) + 2) ut3) (.int (((xs.length : Int) + (ys.length : Int)) + 2) vt3) (.int 0 zt3))]) (cs := [(c0, wc0), (c1, wc1), (c2, wc2), (c3, wc3), (c4, wc4), (c5, wc5)]) X T B o1 F2 N2 hrest1 hx hy hf hg hlx hly rfl rfl G1 O1 (.cons (.cons (.cons (.cons .nil)))) (by repeat (first | exact List.forall_mem_nil _ | refine List.forall_mem_cons.mpr ⟨by k_mem, ?_⟩)) (.cons pc0 (.cons pc1 (.cons pc2 (.cons pc3 (.cons pc4 (.cons pc5 .nil)))))) (by repeat (first | exact List.forall_mem_nil _ | refine List.forall_mem_cons.mpr ⟨by k_mem, ?_⟩)) ?_
  intro la1 lb1 va1 vb1 tf1 vmb2 vop2 vb2j2 vbj2 vbp2 h2 tk2 F3 N3
  have N4 : News h₀ L h2 ((M, instObj 242 dM) :: (dM, sD w.params tf1 (.ref la1) (.ref lb1) vmb2 vop2 .none vb2j2 vbj2 vbp2) :: (la1, listOf va1 0) :: (lb1, listOf vb1 0) :: (lx, listOf vx.toArray cx) :: (ly, listOf vy.toArray cy) :: (lf, listOf vf.toArray nf) :: (lg, listOf vg.toArray ng) :: (lt, listOf #[.ref t0, .ref t1, .ref t2, .ref t3] n1) :: (lc, listOf #[.ref c0, .ref c1, .ref c2, .ref c3, .ref c4, .ref c5] n2) :: (t0, tup3 (.int 0 ut0) (.int 0 vt0) (.int 1 zt0)) :: (t1, tup3 (.int 2 ut1) (.int 2 vt1) (.int (((xs.length : Int) + (ys.length : Int)) - 2) zt1)) :: (t2, tup3 (.int ((xs.length : Int) + (ys.length : Int)) ut2) (.int (((xs.length : Int) + (ys.length : Int)) + 1) vt2) (.int 1 zt2)) :: (t3, tup3 (.int (((xs.length : Int) + (ys.length : Int)) + 2) ut3) (.int (((xs.length : Int) + (ys.length : Int)) + 2) vt3) (.int 0 zt3)) :: (c0, wc0) :: (c1, wc1) :: (c2, wc2) :: (c3, wc3) :: (c4, wc4) :: (c5, wc5) :: (I, oI) :: []) := news_sub N3 (by repeat (first | exact List.forall_mem_nil _ | refine List.forall_mem_cons.mpr ⟨by k_mem, ?_⟩))
  refine execs_app ?_
  have F4 := fr_over (S := [(Str.ofString "matcher", .ref M), (Str.ofString "first", .ref lf), (Str.ofString "second", .ref lg), (Str.ofString "x", .ref lx), (Str.ofString "y", .ref ly), (Str.ofString "back", .ref lt), (Str.ofString "back_codes", .ref lc)]) F3 (by repeat (first | exact List.forall_mem_nil _ | refine List.forall_mem_cons.mpr ⟨rfl, ?_⟩))
  have G2 := GmbB.cast (gmbA_G (w := w) m0' m1' m2' m3' (by omega) (by omega) (by omega) (by omega) (by omega) (by omega) (by omega) (by omega)) (bl' := [(0, 0, 1), (2, 2, ((xs.length : Int) + (ys.length : Int)) - 2), (((xs.length : Int) + (ys.length : Int)), ((xs.length : Int) + (ys.length : Int)) + 1, 1), (((xs.length : Int) + (ys.length : Int)) + 2, ((xs.length : Int) + (ys.length : Int)) + 2, 0)]) (by rw [hA, hB]; rfl)
  have O2 := OpcB.cast (opcA_G (w := w) (a1 := 2) (b1 := 2) (c1 := ((xs.length : Int) + (ys.length : Int)) - 2) (a2 := ((xs.length : Int) + (ys.length : Int))) (b2 := ((xs.length : Int) + (ys.length : Int)) + 1) (c2 := 1) (na := ((xs.length : Int) + (ys.length : Int)) + 2) (nb := ((xs.length : Int) + (ys.length : Int)) + 2) (by omega) (by omega) (by omega) (by omega) (by omega) (by omega) (by omega) (by omega)) (bl' := [(0, 0, 1), (2, 2, ((xs.length : Int) + (ys.length : Int)) - 2), (((xs.length : Int) + (ys.length : Int)), ((xs.length : Int) + (ys.length : Int)) + 1, 1), (((xs.length : Int) + (ys.length : Int)) + 2, ((xs.length : Int) + (ys.length : Int)) + 2, 0)]) (ol' := [("equal", 0, 1, 0, 1), ("replace", 1, 2, 1, 2), ("equal", 2, ((xs.length : Int) + (ys.length : Int)), 2, ((xs.length : Int) + (ys.length : Int))), ("insert", ((xs.length : Int) + (ys.length : Int)), ((xs.length : Int) + (ys.length : Int)), ((xs.length : Int) + (ys.length : Int)), ((xs.length : Int) + (ys.length : Int)) + 1), ("equal", ((xs.length : Int) + (ys.length : Int)), ((xs.length : Int) + (ys.length : Int)) + 1, ((xs.length : Int) + (ys.length : Int)) + 1, ((xs.length : Int) + (ys.length : Int)) + 2), ("delete", ((xs.length : Int) + (ys.length : Int)) + 1, ((xs.length : Int) + (ys.length : Int)) + 2, ((xs.length : Int) + (ys.length : Int)) + 2, ((xs.length : Int) + (ys.length : Int)) + 2)]) rfl (by simp only [List.cons.injEq, Prod.mk.injEq, and_true, true_and]; omega)
  refine chk2 (rest := (t0, tup3 (.int 0 ut0) (.int 0 vt0) (.int 1 zt0)) :: (t1, tup3 (.int 2 ut1) (.int 2 vt1) (.int (((xs.length : Int) + (ys.length : Int)) - 2) zt1)) :: (t2, tup3 (.int ((xs.length : Int) + (ys.length : Int)) ut2) (.int (((xs.length : Int) + (ys.length : Int)) + 1) vt2) (.int 1 zt2)) :: (t3, tup3 (.int (((xs.length : Int) + (ys.length : Int)) + 2) ut3) (.int (((xs.length : Int) + (ys.length : Int)) + 2) vt3) (.int 0 zt3)) :: (c0, wc0) :: (c1, wc1) :: (c2, wc2) :: (c3, wc3) :: (c4, wc4) :: (c5, wc5) :: (I, oI) :: []) (ts := [(t0, tup3 (.int 0 ut0) (.int 0 vt0) (.int 1 zt0)), (t1, tup3 (.int 2 ut1) (.int 2 vt1) (.int (((xs.length : Int) + (ys.length : Int)) - 2) zt1)), (t2, tup3 (.int ((xs.length : Int) + (ys.length : Int)) ut2) (.int (((xs.length : Int) + (ys.length : Int)) + 1) vt2) (.int 1 zt2)), (t3, tup3 (.int (((xs.length : Int) + (ys.length : Int)) + 2) ut3) (.int (((xs.length : Int) + (ys.length : Int)) + 2) vt3) (.int 0 zt3))]) (cs := [(c0, wc0), (c1, wc1), (c2, wc2), (c3, wc3), (c4, wc4), (c5, wc5)]) X T B o1 F4 N4 hrest2 hx hy hf hg hlx hly rfl rfl G2 O2 (.cons (.cons (.cons (.cons .nil)))) (by repeat (first | exact List.forall_mem_nil _ | refine List.forall_mem_cons.mpr ⟨by k_mem, ?_⟩)) (.cons pc0 (.cons pc1 (.cons pc2 (.cons pc3 (.cons pc4 (.cons pc5 .nil)))))) (by repeat (first | exact List.forall_mem_nil _ | refine List.forall_mem_cons.mpr ⟨by k_mem, ?_⟩)) ?_
  intro la2 lb2 va2 vb2 tf2 vmb3 vop3 vb2j3 vbj3 vbp3 h3 tk3 F5 N5
  have F6 := fr_over (S := [(Str.ofString "turn", .int tn tt), (Str.ofString "item", .int item ti), (Str.ofString "x", .ref lx), (Str.ofString "y", .ref ly), (Str.ofString "matcher", .ref M), (Str.ofString "script", .ref ls)]) F5 (by repeat (first | exact List.forall_mem_nil _ | refine List.forall_mem_cons.mpr ⟨rfl, ?_⟩))
  have N6 : News h₀ L h3 ((lx, listOf vx.toArray cx) :: (ly, listOf vy.toArray cy) :: (M, instObj 242 dM) :: (dM, sD w.params tf2 (.ref la2) (.ref lb2) vmb3 vop3 .none vb2j3 vbj3 vbp3) :: (la2, listOf va2 0) :: (lb2, listOf vb2 0) :: (I, oI) :: []) := news_sub N5 (by repeat (first | exact List.forall_mem_nil _ | refine List.forall_mem_cons.mpr ⟨by k_mem, ?_⟩))
  refine next_words X T B hls hns hlen F6 N6 hx hy hlx hly (by omega) q1 ?_
  intro h4 tk4 lx' ly' vx' vy' cx' cy' xs' ys' m4 F7 N7 hx' hy' hw
  exact k h4 tk4 tf2 la2 lb2 va2 vb2 vmb3 vop3 vb2j3 vbj3 vbp3 lx' ly' vx' vy' cx' cy' xs' ys' m4 F7 (news_sub N7 (by repeat (first | exact List.forall_mem_nil _ | refine List.forall_mem_cons.mpr ⟨by k_mem, ?_⟩))) hx' hy' (words_next W hw)
end Mine
end
section
open PySem PySem.W PySem.Calls PyProof.Rows
set_option maxRecDepth 100000
namespace Mine
section
variable {prog : Program} {w : World} {A : Around} {E : Value → Shared → Prop} {s : Shared} {env : Env} {h₀ : Heap} {x : Str} {body : List Stmt} {Q : Flow → Shared → Prop}
/-- a range, up by ones; the turn learns what kind the iterator is -/
theorem rangeK {r : Addr} {a₀ b₀ : Int} {t₀ u₀ v₀ : Tok} {n : Nat} {m₀ : Str → Option Value} {news : List (Addr × Obj)} (J : Nat → (Str → Option Value) → List (Addr × Obj) → Prop)
    (hh : A.handled = none) (hr : IsRange s.heap r a₀ b₀ 1 t₀ u₀ v₀) (hsmall : Builtin.Range.small a₀ b₀ 1 = true) (hn : Builtin.Range.rangeSize a₀ b₀ 1 = (n : Int)) (F : Fr h₀ env.locals s.heap m₀) (N : News h₀ env.locals s.heap news) (hj : J 0 m₀ news)
    (turn : ∀ i t m₁ news₁ h tk I oI, i < n → oI.cls = .type "range_iterator" → J i m₁ news₁ → (∀ p ∈ news₁, p.1 ≠ I) → Fr h₀ env.locals h (fun y => if y = x then some (.int (a₀ + i) t) else m₁ y) → News h₀ env.locals h ((I, oI) :: news₁) →
      wpAny (model prog w) A (execs body env) (PostJ h₀ env.locals [I] [(I, oI)] (J (i + 1)) { s with heap := h, toks := tk } Q) E { s with heap := h, toks := tk })
    (done : ∀ m₁ news₁ h tk, J n m₁ news₁ → Fr h₀ env.locals h m₁ → News h₀ env.locals h news₁ → Q .next { s with heap := h, toks := tk }) :
    wpAny (model prog w) A (pyIter (.ref r)) (fun it s₂ => LoopAtV prog w A h₀ env x body Q E it s₂) E s := by
  refine wpAny_pyIter_range hr hsmall ?_
  have W : Walks prog w A s.heap.objs.size [s.heap.objs.size] [s.heap.objs.size] n (fun i v => i < n ∧ ∃ t, v = .int (a₀ + i * 1) t)
      (fun i h => IsRangeIter h s.heap.objs.size (a₀ + (i : Nat) * 1) ((n : Int) - (i : Nat)) 1) := (Walks.range hh _ a₀ 1 n).bound
  refine ⟨s.heap.objs.size, _, _, n, _, _, m₀, news, J, rfl, W, ?_, ?_, ?_, (by show IsRangeIter _ _ _ _ _; rw [hn]; simpa using Heap.get?_push_size _ rfl), F.push _, fun p hp => ⟨Heap.get?_push_of_some _ (N p hp).1, (N p hp).2⟩, hj, ?_, ?_⟩
  · intro hm
    exact absurd F.ns.lt ((List.mem_singleton.mp hm) ▸ Nat.lt_irrefl _)
  · intro b hb
    rw [List.mem_singleton.mp hb]
    exact next_is_new F
  · intro p hp hI
    exact absurd (Heap.lt_size (N p hp).1) ((List.mem_singleton.mp hI) ▸ Nat.lt_irrefl _)
  · rintro i v m₁ news₁ s₁ own ⟨hh', tk', rfl⟩ hi ⟨_, t, rfl⟩ hJ hoff hown hal hall hst' F' N'
    have hst2 : hh'.get? s.heap.objs.size = some { cls := .type "range_iterator", dict := none, data := .fields #[rawInt (a₀ + ((i + 1 : Nat) : Int) * 1), rawInt ((n : Int) - ((i + 1 : Nat) : Int)), rawInt 1], slots := #[] } := hst'
    have hoI := hall s.heap.objs.size (List.mem_singleton.mpr rfl) (next_is_new F) _ hst2
    obtain ⟨oI, hcl, hoI⟩ : ∃ oI : Obj, oI.cls = .type "range_iterator" ∧ (s.heap.objs.size, oI) ∈ own := ⟨_, rfl, hoI⟩
    have e : ∀ p ∈ own, p = (s.heap.objs.size, oI) := by
      intro p hp
      have h1 := List.mem_singleton.mp (hown p hp)
      have h2 := (N' p (List.mem_append_left _ hp)).1
      have h3 := (N' _ (List.mem_append_left _ hoI)).1
      rw [h1] at h2
      rw [h2] at h3
      exact Prod.ext h1 (Option.some.inj h3)
    have N2 : News h₀ env.locals hh' ((s.heap.objs.size, oI) :: news₁) := fun p hp => N' p ((List.mem_cons.mp hp).elim (fun e => e ▸ List.mem_append_left _ hoI) (List.mem_append_right _))
    have F2 : Fr h₀ env.locals hh' (fun y => if y = x then some (.int (a₀ + i) t) else m₁ y) := by simpa using F'
    refine wpAny_mono (turn i t m₁ news₁ hh' tk' _ oI hi hcl hJ (fun p hp q => hoff p hp (List.mem_singleton.mpr q)) F2 N2) (fun f s₂ p => ?_) fun _ _ e => e
    have go : (∃ h' tk₂ m' nx, s₂ = { ({ s with heap := hh', toks := tk' } : Shared) with heap := h', toks := tk₂ } ∧ Fr h₀ env.locals h' m' ∧ News h₀ env.locals h' ([(s.heap.objs.size, oI)] ++ nx) ∧ (∀ p ∈ nx, p.1 ∉ [s.heap.objs.size]) ∧ J (i + 1) m' nx) →
        ∃ h' tk₂ m' nx, s₂ = { ({ s with heap := hh', toks := tk' } : Shared) with heap := h', toks := tk₂ } ∧ Fr h₀ env.locals h' m' ∧ News h₀ env.locals h' (own ++ nx) ∧ (∀ p ∈ nx, p.1 ∉ [s.heap.objs.size]) ∧ J (i + 1) m' nx := by
      rintro ⟨h', tk₂, m', nx, e1, F3, N3, o3, j3⟩
      exact ⟨h', tk₂, m', nx, e1, F3, fun p hp => N3 p ((List.mem_append.mp hp).elim (fun q => List.mem_append_left _ (by rw [e p q]; exact List.mem_singleton.mpr rfl)) (List.mem_append_right _)), o3, j3⟩
    cases f with
    | ret v => exact .ret p
    | brk => exact .brk p
    | next => obtain ⟨h', tk, m', nx, e, F', N', ho, hj'⟩ := go p; exact .next ⟨rfl, h', tk, m', nx, e, F', N', ho, hj'⟩
    | cont => obtain ⟨h', tk, m', nx, e, F', N', ho, hj'⟩ := go p; exact .cont ⟨rfl, h', tk, m', nx, e, F', N', ho, hj'⟩
  · rintro h' tk' m' news' F' N' _ hJ
    exact done m' news' h' tk' hJ F' N'
end
/-- what stands ahead of turn n -/
noncomputable def Ahead (w : World) (M dM ls : Addr) (item : Int) (ti : Tok) (n : Nat) (mm : Str → Option Value) (nx : List (Addr × Obj)) : Prop :=
  ∃ t la lb va vb ca cb vmb vop vb2j vbj vbp lx ly vx vy cx cy xs ys m', mm = over [(Str.ofString "item", .int item ti), (Str.ofString "x", .ref lx), (Str.ofString "y", .ref ly), (Str.ofString "matcher", .ref M), (Str.ofString "script", .ref ls)] m' ∧
    nx = (M, instObj 242 dM) :: (dM, sD w.params t (.ref la) (.ref lb) vmb vop .none vb2j vbj vbp) :: (la, listOf va ca) :: (lb, listOf vb cb) :: (lx, listOf (List.toArray vx) cx) :: (ly, listOf (List.toArray vy) cy) :: [] ∧
    IntsAre vx xs ∧ IntsAre vy ys ∧ Words item n xs ys
set_option maxHeartbeats 4000000 in
theorem law_loop {w : World} {s : Shared} {h₀ base : Heap} {L fa M dM ls r : Addr} {mg mb : Str → Option Value} {mean : ExcName → Option Value} {cd : Value} {vs : List Value} {ns : List Int} {item : Int} {ti ta tb tc : Tok} {m₀ : Str → Option Value} {news : List (Addr × Obj)} {Q : Flow → Shared → Prop}
    (X : (K w.params).In h₀) (T : Top qv (looseW qv loose) mean mg mb h₀) (B : Below callerA base [] h₀) (hls : h₀.IsList ls vs.toArray) (hns : IntsAre vs ns) (hlen : ns.length ≤ 63) (o1 : @LT.lt Nat _ dM M)
    (hr : IsRange s.heap r 0 7 1 ta tb tc) (F : Fr h₀ L s.heap m₀) (N : News h₀ L s.heap news) (hj : Ahead w M dM ls item ti 0 m₀ news)
    (done : ∀ h' tk m' nx, Fr h₀ L h' m' → News h₀ L h' nx → Q .next { s with heap := h', toks := tk }) :
    wpAny (model pw w) (callerA.deeper (envL L fa cd)) (pyIter (.ref r)) (fun it s₂ => LoopAtV pw w (callerA.deeper (envL L fa cd)) h₀ (envL L fa cd) (Str.ofString "turn") LBody Q (fun _ _ => False) it s₂) (fun _ _ => False) s := by
  refine rangeK (h₀ := h₀) (env := envL L fa cd) (n := 7) (Ahead w M dM ls item ti) rfl hr (by rfl) (by rfl) F N hj ?_ ?_
  · rintro i tt m₁ news₁ h tk I oI hi hcl ⟨t, la, lb, va, vb, ca, cb, vmb, vop, vb2j, vbj, vbp, lx, ly, vx, vy, cx, cy, xs, ys, m', rfl, rfl, hx, hy, W⟩ hoff F1 N1
    have F2 := fr_over (S := [(Str.ofString "turn", .int (0 + (i : Int)) tt), (Str.ofString "item", .int item ti), (Str.ofString "x", .ref lx), (Str.ofString "y", .ref ly), (Str.ofString "matcher", .ref M), (Str.ofString "script", .ref ls)]) F1 (by repeat (first | exact List.forall_mem_nil _ | refine List.forall_mem_cons.mpr ⟨rfl, ?_⟩))
    have hI : @Ne Nat I dM := fun e => hoff (dM, _) (.tail _ (.head _)) e.symm
    have fin : ∀ h' tk₂ t la lb va vb vmb vop vb2j vbj vbp lx' ly' vx' vy' cx' cy' xs' ys' m', Fr h₀ L h' (over [(Str.ofString "item", .int item ti), (Str.ofString "x", .ref lx'), (Str.ofString "y", .ref ly'), (Str.ofString "matcher", .ref M), (Str.ofString "script", .ref ls)] m') →
        News h₀ L h' ((I, oI) :: (M, instObj 242 dM) :: (dM, sD w.params t (.ref la) (.ref lb) vmb vop .none vb2j vbj vbp) :: (la, listOf va 0) :: (lb, listOf vb 0) :: (lx', listOf (List.toArray vx') cx') :: (ly', listOf (List.toArray vy') cy') :: []) → IntsAre vx' xs' → IntsAre vy' ys' → Words item (i + 1) xs' ys' →
        PostJ h₀ L [I] [(I, oI)] (Ahead w M dM ls item ti (i + 1)) { s with heap := h, toks := tk } Q .next { s with heap := h', toks := tk₂ } := by
      intro h' tk₂ t la lb va vb vmb vop vb2j vbj vbp lx' ly' vx' vy' cx' cy' xs' ys' m' F3 N3 hx' hy' W'
      refine ⟨h', tk₂, _, _, rfl, F3, N3, ?_, t, la, lb, va, vb, 0, 0, vmb, vop, vb2j, vbj, vbp, lx', ly', vx', vy', cx', cy', xs', ys', m', rfl, rfl, hx', hy', W'⟩
      have off : ∀ (b : Addr) (o : Obj), (b, o) ∈ (I, oI) :: (M, instObj 242 dM) :: (dM, sD w.params t (.ref la) (.ref lb) vmb vop .none vb2j vbj vbp) :: (la, listOf va 0) :: (lb, listOf vb 0) :: (lx', listOf (List.toArray vx') cx') :: (ly', listOf (List.toArray vy') cy') :: [] → o.cls ≠ .type "range_iterator" → b ∉ [I] := fun b o hm hc hb =>
        ne_of_cls N3 hm (.head _) (by rw [hcl]; exact hc) (List.mem_singleton.mp hb)
      refine List.forall_mem_cons.mpr ⟨off M (instObj 242 dM) (by k_mem) (fun e => by cases e), ?_⟩
      refine List.forall_mem_cons.mpr ⟨off dM _ (by k_mem) (fun e => absurd (Value.type.inj e) (by decide)), ?_⟩
      refine List.forall_mem_cons.mpr ⟨off la _ (by k_mem) (fun e => absurd (Value.type.inj e) (by decide)), ?_⟩
      refine List.forall_mem_cons.mpr ⟨off lb _ (by k_mem) (fun e => absurd (Value.type.inj e) (by decide)), ?_⟩
      refine List.forall_mem_cons.mpr ⟨off lx' _ (by k_mem) (fun e => absurd (Value.type.inj e) (by decide)), ?_⟩
      refine List.forall_mem_cons.mpr ⟨off ly' _ (by k_mem) (fun e => absurd (Value.type.inj e) (by decide)), ?_⟩
      exact List.forall_mem_nil _
    rcases Nat.lt_trichotomy i 1 with h1 | h1 | h1
    · exact turn0 (s := { s with heap := h, toks := tk }) X T B hls hns hlen o1 F2 N1 hI hx hy W (by omega) (by omega) (by omega) fin
    · exact turn1 (s := { s with heap := h, toks := tk }) X T B hls hns hlen o1 F2 N1 hI hx hy W (by omega) (by omega) (by omega) fin
    · exact turn2 (s := { s with heap := h, toks := tk }) X T B hls hns hlen o1 F2 N1 hI hx hy W (by omega) (by omega) (by omega) fin
  · intro m₁ news₁ h tk _ F1 N1
    exact done h tk m₁ news₁ F1 N1
end Mine
end
section
open PySem PySem.W PySem.Calls PyProof.Rows
set_option maxRecDepth 100000
namespace Mine
theorem pick6 {g h : Heap} {L : Addr} {a0 a1 a2 a3 a4 a5 : Addr × Obj} (N : News g L h [a0, a1, a2, a3, a4, a5]) : News g L h [a2, a3, a5, a4, a1, a0] := fun p hp => N p (by
  simp only [List.mem_cons, List.not_mem_nil, or_false] at hp ⊢
  rcases hp with h | h | h | h | h | h <;> simp [h])
set_option maxHeartbeats 4000000 in
theorem law_head {w : World} {s : Shared} {h₀ : Heap} {L fa ls : Addr} {mg mb : Str → Option Value} {mean : ExcName → Option Value} {cd : Value} {vs : List Value} {ns : List Int} {Q : Flow → Shared → Prop}
    (X : (K w.params).In h₀) (T : Top qv (looseW qv loose) mean mg mb h₀) (B : Below callerA h₀ [] h₀) (hls : h₀.IsList ls vs.toArray) (hns : IntsAre vs ns) (hlen : ns.length ≤ 63)
    (F : Fr h₀ L s.heap (fun x => List.lookup x [(Str.ofString "script", Value.ref ls)].reverse)) (N : News h₀ L s.heap [])
    (k : ∀ h' tk m' nx, Fr h₀ L h' m' → News h₀ L h' nx → Q (.ret (.bool true)) { s with heap := h', toks := tk }) :
    wpAny (model pw w) (callerA.deeper (envL L fa cd)) (execs B253 (envL L fa cd)) Q (fun _ _ => False) s := by
  conv in B253 => whnf
  show wpAny _ _ (execs _ _) _ _ _
  iterate 63 (first | (first | (k_here; (with_reducible show wpAny _ _ (call (Value.ref 242) _) _ _ _); k_dflt (refine init_walk (by k_asm) (by k_asm) (by k_asm) (by k_asm) (by k_asm) (by omega) ?_); intro M' dM' D' J' P' t0 t1 t2 t3 t4 t5 t6 t7 t8 t9 h' tk' F' N' l1 l2) | walk1) | (dsimp only; (first | (k_here; (with_reducible show wpAny _ _ (call (Value.ref 242) _) _ _ _); k_dflt (refine init_walk (by k_asm) (by k_asm) (by k_asm) (by k_asm) (by k_asm) (by omega) ?_); intro M' dM' D' J' P' t0 t1 t2 t3 t4 t5 t6 t7 t8 t9 h' tk' F' N' l1 l2) | walk1)))
  rename Fr h₀ L _ _ => F9
  rename News h₀ L _ _ => N9
  rename IsRange _ _ _ _ _ _ _ _ => R9
  have N10 := pick6 N9
  have F10 := fr_over (S := [(Str.ofString "item", .int ns.sum _), (Str.ofString "x", .ref _), (Str.ofString "y", .ref _), (Str.ofString "matcher", .ref _), (Str.ofString "script", .ref ls)]) F9 (by repeat (first | exact List.forall_mem_nil _ | refine List.forall_mem_cons.mpr ⟨rfl, ?_⟩))
  refine law_loop (item := ns.sum) X T B hls hns hlen ?_ R9 F10 N10 ⟨_, _, _, #[], #[], 0, 0, .none, .none, _, _, _, _, _, [.int ns.sum _], [.int (ns.sum + 1) _], 0, 0, [ns.sum], [ns.sum + 1], _, rfl, rfl, .cons _ _ .nil, .cons _ _ .nil, words_zero _⟩ ?_
  · assumption
  clear F9 N9 R9 F10 N10
  intro h' tk m' nx F9 N9
  dsimp only
  repeat' (first | (k_here; (with_reducible show wpAny _ _ (call (Value.ref 242) _) _ _ _); k_dflt (refine init_walk (by k_asm) (by k_asm) (by k_asm) (by k_asm) (by k_asm) (by omega) ?_); intro M' dM' D' J' P' t0 t1 t2 t3 t4 t5 t6 t7 t8 t9 h' tk' F' N' l1 l2) | walk1)
  exact k _ _ _ _ F9 N9
end Mine
end
section
open PySem PySem.W PyProof.Rows
set_option maxRecDepth 100000
namespace Mine
noncomputable def lawDef : DefRec := { name := Str.ofString "law", params := A253, body := B253, scope := S253, pos := ⟨463, 0, 493, 15⟩ }
theorem lawDef_eq : defOf qv (Str.ofString "law") = some (lawDef, []) := by kernel_rfl
set_option maxHeartbeats 8000000 in
theorem hd (call : WalkO qv loose (XL qv []) (Hook.says hook) PySem.Challenge.rw_mt0013_01.row.toRowW lawDef [] fun f vs => PySem.call f vs) : PySem.Challenge.rw_mt0013_01.Holds := by
  w_on; refine holds_law ((congrFun PySem.W.Fast.te9446332074065402090 _).trans (by kernel_rfl)) fun said => ?_
  refine holds_open (q := qv) (loose := loose) (Xt := Xt) (XP := XL qv []) (Yf := Hook.obs hook) (Ya := Hook.val hook) (YP := Hook.says hook) (d := lawDef) (kwd := []) (N := 4414) left (Hook.of hook) (Hook.keeps hook) (fun s e => xl_of s (Bool.and_eq_true_iff.mp (show (xlAt qv [] s && recOk [] s) = true from e)).1) XL.keeps lawDef_eq (by kernel_rfl) (by kernel_rfl) (fun s e => recFacts_of (Bool.and_eq_true_iff.mp (show (xlAt qv [] s && recOk [] s) = true from e)).2) (by rfl) (by assumption) (by decide +kernel) ⟨rfl, rfl, rfl, rfl, rfl, by decide +kernel⟩ ?hw call
  case hw => w_witness2
end Mine
end
section
open PySem PySem.W PySem.Calls PyProof.Rows
set_option maxRecDepth 100000
namespace Mine
set_option maxHeartbeats 8000000 in
theorem law_walk : WalkO qv loose (XL qv []) (Hook.says hook) PySem.Challenge.rw_mt0013_01.row.toRowW lawDef [] fun f vs => PySem.call f vs := by
  k_fill
  intro w s₀ s₁ mg mb G Y fa o pm cd doc dV kV ho hd hcd hD hmg hg args vals as hpre hlay hrd hwl hlo
  have KX := kIn_of Y
  refine Ground.open G ?_
  intro T B D TE TW
  obtain ⟨_, _, he, B0⟩ := based_of_top T rfl hmg ho hd
  have he2 : cd = _ := he
  subst he2
  wrow_args hpre hlay hrd hwl hlo
  first | refine callC_kw (enter_call ?_) | refine enter_call ?_ | refine callC_kw (enter_callW ?_) | refine enter_callW ?_
  w_top on
  refine codeAny_mono ?_ (fun _ _ g => GoodW.toG g)
  have K0 := below_caller (Top.heap T)
  w_call any ho hd hcd hD T F
  all_goals try k_fold
  rename Top _ _ _ _ _ _ => T9
  rename Below _ _ _ _ => B9
  rename Heap.IsList _ _ _ => L9
  rename IntsAre _ _ => I9
  rename Fr _ _ _ _ => F9
  rename News _ _ _ _ => N9
  rename ¬ (_ : Int) < _ => C9
  refine wpAny_mono (law_head KX T9 B9 L9 I9 (by omega) F9 N9 ?_) (fun f s' h => h) (fun _ _ h => h.elim)
  intro h' tk m' nx F' N'
  dsimp only
  clear F9 N9
  refine goodW_bool F' hg (raisesW_false ?_) ?_
  · wrow_none_raised
  · wrow_post
theorem all : PySem.Challenge.rw_mt0013_01.Holds := hd law_walk
end Mine
end
theorem PySem.Challenge.cw_mt0013_01_holds : PySem.Challenge.rw_mt0013_01.Holds := by
  exact Mine.all
