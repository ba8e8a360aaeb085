import PyProof.Rows.All
import Wide.All
import OpenK.AllK
import Wide.FinOn
import PySem.Challenge.RW_ja0044_01
set_option Elab.async false
set_option linter.all false
section
open PySem PySem.W PyProof.Rows
set_option Elab.async false
set_option maxRecDepth 100000
set_option maxHeartbeats 8000000
namespace Mine
noncomputable section
/-- the program of the row; its statements and defs by their place -/
def hP : Program := PySem.Challenge.rw_ja0044_01.row.toRowW.1
def hStm (i : Nat) : Option Stmt := hP.main.body[i]?
def hSub (i j : Nat) : Option Stmt := match hStm i with
  | some (.ClassDef _ _ _ b _ _ _ _ _ _ _) => b[j]?
  | _ => none
def hArg (o : Option Stmt) : Arguments := match o with
  | some (.FunctionDef _ a _ _ _ _ _ _ _ _) => a
  | _ => ⟨[], [], none, [], [], none, []⟩
def hBody (o : Option Stmt) : List Stmt := match o with
  | some (.FunctionDef _ _ b _ _ _ _ _ _ _) => b
  | _ => []
def hScope (o : Option Stmt) : Scope := match o with
  | some (.FunctionDef _ _ _ _ _ _ s _ _ _) => s
  | _ => Scope.mk ScopeKind.function [] false false []
def hO43 (P : Params) : Obj := (Obj.mk (Value.type "tuple") (Option.none) (Data.seq #[] 0) #[])
def hO44 (P : Params) : Obj := (Obj.mk Value.none (Option.none) (Data.fields #[]) #[])
def hO45 (P : Params) : Obj := (Obj.mk (Value.type "code") (Option.none) (Data.fields #[(Value.str (Str.ofString "<module>") 182), (Value.str (Str.ofString "<module>") 183), (Value.str (Str.ofString "/claim/cut.py") 184), (Value.int 1 0), (Value.int 0 0), (Value.int 0 0), (Value.int 0 0), (Value.int 0 0), (Value.ref 11), (Value.bool Bool.false), (Value.int 181 0), (Value.ref 12), Value.none, Value.none, Value.none, Value.none, (Value.int 185 0), (Value.int 1 0), (Value.str (Str.ofString "/claim/cut.py") 186)]) #[])
def hO46 (P : Params) : Obj := (Obj.mk (Value.type "frame") (Option.none) Data.plain #[(Option.some (Value.ref 13)), (Option.some (Value.ref 3)), (Option.some (Value.ref 3)), (Option.none), (Option.some (Value.str (Str.ofString "__main__") 164)), (Option.none), (Option.some (Value.ref 0))])
def hO49 (P : Params) : Obj := (Obj.mk (Value.type "dict") (Option.none) (Data.dict #[(DictEntry.mk (PyData.keyHash P (Str.ofString "__name__")) (Value.str (Str.ofString "__name__") 165) (Value.str (Str.ofString "sect.core.hints") 214)), (DictEntry.mk (PyData.keyHash P (Str.ofString "__doc__")) (Value.str (Str.ofString "__doc__") 166) Value.none), (DictEntry.mk (PyData.keyHash P (Str.ofString "__package__")) (Value.str (Str.ofString "__package__") 167) Value.none), (DictEntry.mk (PyData.keyHash P (Str.ofString "__loader__")) (Value.str (Str.ofString "__loader__") 168) (Value.builtin "__main__.__loader__#opaque")), (DictEntry.mk (PyData.keyHash P (Str.ofString "__spec__")) (Value.str (Str.ofString "__spec__") 169) Value.none), (DictEntry.mk (PyData.keyHash P (Str.ofString "__annotations__")) (Value.str (Str.ofString "__annotations__") 170) (Value.ref 6)), (DictEntry.mk (PyData.keyHash P (Str.ofString "__builtins__")) (Value.str (Str.ofString "__builtins__") 171) (Value.ref 4)), (DictEntry.mk (PyData.keyHash P (Str.ofString "__file__")) (Value.str (Str.ofString "__file__") 173) (Value.str (Str.ofString "/claim/cut.py") 172)), (DictEntry.mk (PyData.keyHash P (Str.ofString "__cached__")) (Value.str (Str.ofString "__cached__") 174) Value.none), (DictEntry.mk (PyData.keyHash P (Str.ofString "_wall")) (Value.str (Str.ofString "_wall") 193) (Value.ref 21)), (DictEntry.mk (PyData.keyHash P (Str.ofString "arg_min")) (Value.str (Str.ofString "arg_min") 203) (Value.ref 28)), (DictEntry.mk (PyData.keyHash P (Str.ofString "to_contour_orientation")) (Value.str (Str.ofString "to_contour_orientation") 213) (Value.ref 35))] 12) #[])
def hO50 (P : Params) : Obj := (Obj.mk Value.none (Option.none) (Data.fields #[(Value.int 1 0), (Value.int 0 0), (Value.ref 20), (Value.int 5 0), (Value.int 0 0), (Value.ref 27), (Value.int 7 0), (Value.int 0 0), (Value.ref 34)]) #[])
def hO51 (P : Params) : Obj := (Obj.mk (Value.type "tuple") (Option.none) (Data.seq #[] 0) #[])
def hO52 (P : Params) : Obj := (Obj.mk Value.none (Option.none) (Data.fields #[]) #[])
def hO53 (P : Params) : Obj := (Obj.mk (Value.type "tuple") (Option.none) (Data.seq #[(Value.str (Str.ofString "k") 190)] 0) #[])
def hO54 (P : Params) : Obj := (Obj.mk (Value.type "tuple") (Option.none) (Data.seq #[] 0) #[])
def hO55 (P : Params) : Obj := (Obj.mk Value.none (Option.none) (Data.func (FuncData.mk (Str.ofString "_wall") (Str.ofString "_wall") (hArg (hStm 0)) (FuncBody.stmts (hBody (hStm 0))) (hScope (hStm 0)) 0 [] Value.none Value.none Value.none Value.none (Option.none) Value.none Value.none 0)) #[])
def hO56 (P : Params) : Obj := (Obj.mk (Value.type "code") (Option.none) (Data.fields #[(Value.str (Str.ofString "_wall") 187), (Value.str (Str.ofString "_wall") 188), (Value.str (Str.ofString "/claim/cut.py") 189), (Value.int 1 0), (Value.int 1 0), (Value.int 0 0), (Value.int 0 0), (Value.int 3 0), (Value.ref 15), (Value.bool Bool.true), (Value.int 181 0), (Value.ref 16), Value.none, (Value.ref 17), (Value.ref 18), (Value.ref 19), (Value.int 191 0), (Value.int 1 0), (Value.str (Str.ofString "/claim/cut.py") 192)]) #[])
def hO57 (P : Params) : Obj := (Obj.mk (Value.type "function") (Option.none) (Data.func (FuncData.mk (Str.ofString "_wall") (Str.ofString "_wall") (hArg (hStm 0)) (FuncBody.stmts (hBody (hStm 0))) (hScope (hStm 0)) 3 [] Value.none Value.none Value.none (Value.str (Str.ofString "__main__") 164) (Option.none) (Value.ref 20) Value.none 0)) #[])
def hO58 (P : Params) : Obj := (Obj.mk (Value.type "tuple") (Option.none) (Data.seq #[] 0) #[])
def hO59 (P : Params) : Obj := (Obj.mk Value.none (Option.none) (Data.fields #[]) #[])
def hO60 (P : Params) : Obj := (Obj.mk (Value.type "tuple") (Option.none) (Data.seq #[(Value.str (Str.ofString "sequence") 199)] 0) #[])
def hO61 (P : Params) : Obj := (Obj.mk (Value.type "tuple") (Option.none) (Data.seq #[(Value.str (Str.ofString "sequence") 200)] 0) #[])
def hO62 (P : Params) : Obj := (Obj.mk Value.none (Option.none) (Data.func (FuncData.mk (Str.ofString "arg_min") (Str.ofString "arg_min") (hArg (hStm 2)) (FuncBody.stmts (hBody (hStm 2))) (hScope (hStm 2)) 0 [] Value.none Value.none Value.none Value.none (Option.none) Value.none Value.none 0)) #[])
def hO63 (P : Params) : Obj := (Obj.mk (Value.type "code") (Option.none) (Data.fields #[(Value.str (Str.ofString "arg_min") 196), (Value.str (Str.ofString "arg_min") 197), (Value.str (Str.ofString "/claim/cut.py") 198), (Value.int 5 0), (Value.int 1 0), (Value.int 0 0), (Value.int 0 0), (Value.int 3 0), (Value.ref 22), (Value.bool Bool.true), (Value.int 181 0), (Value.ref 23), Value.none, (Value.ref 24), (Value.ref 25), (Value.ref 26), (Value.int 201 0), (Value.int 5 0), (Value.str (Str.ofString "/claim/cut.py") 202)]) #[])
def hO64 (P : Params) : Obj := (Obj.mk (Value.type "function") (Option.none) (Data.func (FuncData.mk (Str.ofString "arg_min") (Str.ofString "arg_min") (hArg (hStm 2)) (FuncBody.stmts (hBody (hStm 2))) (hScope (hStm 2)) 3 [] Value.none Value.none Value.none (Value.str (Str.ofString "sect.core.utils") 194) (Option.none) (Value.ref 27) Value.none 0)) #[])
def hO65 (P : Params) : Obj := (Obj.mk (Value.type "tuple") (Option.none) (Data.seq #[] 0) #[])
def hO66 (P : Params) : Obj := (Obj.mk Value.none (Option.none) (Data.fields #[]) #[])
def hO67 (P : Params) : Obj := (Obj.mk (Value.type "tuple") (Option.none) (Data.seq #[(Value.str (Str.ofString "contour") 207), (Value.str (Str.ofString "orienteer") 208), (Value.str (Str.ofString "vertices") 209), (Value.str (Str.ofString "index") 210)] 0) #[])
def hO68 (P : Params) : Obj := (Obj.mk (Value.type "tuple") (Option.none) (Data.seq #[] 0) #[])
def hO69 (P : Params) : Obj := (Obj.mk Value.none (Option.none) (Data.func (FuncData.mk (Str.ofString "to_contour_orientation") (Str.ofString "to_contour_orientation") (hArg (hStm 3)) (FuncBody.stmts (hBody (hStm 3))) (hScope (hStm 3)) 0 [] Value.none Value.none Value.none Value.none (Option.none) Value.none Value.none 0)) #[])
def hO70 (P : Params) : Obj := (Obj.mk (Value.type "code") (Option.none) (Data.fields #[(Value.str (Str.ofString "to_contour_orientation") 204), (Value.str (Str.ofString "to_contour_orientation") 205), (Value.str (Str.ofString "/claim/cut.py") 206), (Value.int 7 0), (Value.int 2 0), (Value.int 0 0), (Value.int 0 0), (Value.int 3 0), (Value.ref 29), (Value.bool Bool.true), (Value.int 181 0), (Value.ref 30), Value.none, (Value.ref 31), (Value.ref 32), (Value.ref 33), (Value.int 211 0), (Value.int 7 0), (Value.str (Str.ofString "/claim/cut.py") 212)]) #[])
def hO71 (P : Params) : Obj := (Obj.mk (Value.type "function") (Option.none) (Data.func (FuncData.mk (Str.ofString "to_contour_orientation") (Str.ofString "to_contour_orientation") (hArg (hStm 3)) (FuncBody.stmts (hBody (hStm 3))) (hScope (hStm 3)) 3 [] Value.none Value.none Value.none (Value.str (Str.ofString "sect.core.utils") 194) (Option.none) (Value.ref 34) Value.none 0)) #[])
def hO72 (P : Params) : Obj := (Obj.mk (Value.type "dict") (Option.none) (Data.dict #[(DictEntry.mk (PyData.keyHash P (Str.ofString "__name__")) (Value.str (Str.ofString "__name__") 165) (Value.str (Str.ofString "sect.core.hints") 214)), (DictEntry.mk (PyData.keyHash P (Str.ofString "__doc__")) (Value.str (Str.ofString "__doc__") 166) Value.none), (DictEntry.mk (PyData.keyHash P (Str.ofString "__package__")) (Value.str (Str.ofString "__package__") 167) Value.none), (DictEntry.mk (PyData.keyHash P (Str.ofString "__loader__")) (Value.str (Str.ofString "__loader__") 168) (Value.builtin "__main__.__loader__#opaque")), (DictEntry.mk (PyData.keyHash P (Str.ofString "__spec__")) (Value.str (Str.ofString "__spec__") 169) Value.none), (DictEntry.mk (PyData.keyHash P (Str.ofString "__annotations__")) (Value.str (Str.ofString "__annotations__") 170) (Value.ref 6)), (DictEntry.mk (PyData.keyHash P (Str.ofString "__builtins__")) (Value.str (Str.ofString "__builtins__") 171) (Value.ref 4)), (DictEntry.mk (PyData.keyHash P (Str.ofString "__file__")) (Value.str (Str.ofString "__file__") 173) (Value.str (Str.ofString "/claim/cut.py") 172)), (DictEntry.mk (PyData.keyHash P (Str.ofString "__cached__")) (Value.str (Str.ofString "__cached__") 174) Value.none), (DictEntry.mk (PyData.keyHash P (Str.ofString "_wall")) (Value.str (Str.ofString "_wall") 193) (Value.ref 21)), (DictEntry.mk (PyData.keyHash P (Str.ofString "arg_min")) (Value.str (Str.ofString "arg_min") 203) (Value.ref 28)), (DictEntry.mk (PyData.keyHash P (Str.ofString "to_contour_orientation")) (Value.str (Str.ofString "to_contour_orientation") 213) (Value.ref 35)), (DictEntry.mk (PyData.keyHash P (Str.ofString "_tuplegetter")) (Value.str (Str.ofString "_tuplegetter") 272) (Value.ref 74))] 13) #[])
def hO73 (P : Params) : Obj := (Obj.mk Value.none (Option.none) (Data.fields #[(Value.int 1 0), (Value.int 0 0), (Value.ref 20), (Value.int 5 0), (Value.int 0 0), (Value.ref 27), (Value.int 7 0), (Value.int 0 0), (Value.ref 34), (Value.int 12 0), (Value.int 0 0), (Value.ref 41)]) #[])
def hO74 (P : Params) : Obj := (Obj.mk (Value.type "tuple") (Option.none) (Data.seq #[] 0) #[])
def hO75 (P : Params) : Obj := (Obj.mk (Value.type "builtin_function_or_method") (Option.none) (Data.fields #[(Value.builtin "type.__prepare__"), (Value.type "type")]) #[])
def hO76 (P : Params) : Obj := (Obj.mk (Value.type "dict") (Option.none) (Data.dict #[(DictEntry.mk (PyData.keyHash P (Str.ofString "__module__")) (Value.str (Str.ofString "__module__") 223) (Value.str (Str.ofString "sect.core.hints") 214)), (DictEntry.mk (PyData.keyHash P (Str.ofString "__qualname__")) (Value.str (Str.ofString "__qualname__") 225) (Value.str (Str.ofString "_tuplegetter") 224)), (DictEntry.mk (PyData.keyHash P (Str.ofString "__firstlineno__")) (Value.str (Str.ofString "__firstlineno__") 227) (Value.int 12 226)), (DictEntry.mk (PyData.keyHash P (Str.ofString "__init__")) (Value.str (Str.ofString "__init__") 236) (Value.ref 49)), (DictEntry.mk (PyData.keyHash P (Str.ofString "__get__")) (Value.str (Str.ofString "__get__") 245) (Value.ref 57)), (DictEntry.mk (PyData.keyHash P (Str.ofString "__set__")) (Value.str (Str.ofString "__set__") 254) (Value.ref 64)), (DictEntry.mk (PyData.keyHash P (Str.ofString "__delete__")) (Value.str (Str.ofString "__delete__") 262) (Value.ref 71)), (DictEntry.mk (PyData.keyHash P (Str.ofString "__static_attributes__")) (Value.str (Str.ofString "__static_attributes__") 265) (Value.ref 72))] 8) #[])
def hO77 (P : Params) : Obj := (Obj.mk (Value.type "tuple") (Option.none) (Data.seq #[] 0) #[])
def hO78 (P : Params) : Obj := (Obj.mk Value.none (Option.none) (Data.fields #[(Value.int 14 0), (Value.int 4 0), (Value.ref 48), (Value.int 18 0), (Value.int 4 0), (Value.ref 56), (Value.int 25 0), (Value.int 4 0), (Value.ref 63), (Value.int 28 0), (Value.int 4 0), (Value.ref 70)]) #[])
def hO79 (P : Params) : Obj := (Obj.mk (Value.type "code") (Option.none) (Data.fields #[(Value.str (Str.ofString "_tuplegetter") 218), (Value.str (Str.ofString "_tuplegetter") 219), (Value.str (Str.ofString "/claim/cut.py") 220), (Value.int 12 0), (Value.int 0 0), (Value.int 0 0), (Value.int 0 0), (Value.int 0 0), (Value.ref 39), (Value.bool Bool.false), (Value.int 181 0), (Value.ref 40), Value.none, Value.none, Value.none, Value.none, (Value.int 221 0), (Value.int 12 0), (Value.str (Str.ofString "/claim/cut.py") 222)]) #[])
def hO80 (P : Params) : Obj := (Obj.mk (Value.type "frame") (Option.none) Data.plain #[(Option.some (Value.ref 41)), (Option.some (Value.ref 3)), (Option.some (Value.ref 38)), (Option.none), (Option.some (Value.str (Str.ofString "sect.core.hints") 214)), (Option.none), (Option.some (Value.ref 0))])
def hO81 (P : Params) : Obj := (Obj.mk (Value.type "tuple") (Option.none) (Data.seq #[] 0) #[])
def hO82 (P : Params) : Obj := (Obj.mk Value.none (Option.none) (Data.fields #[]) #[])
def hO83 (P : Params) : Obj := (Obj.mk (Value.type "tuple") (Option.none) (Data.seq #[(Value.str (Str.ofString "self") 231), (Value.str (Str.ofString "index") 232), (Value.str (Str.ofString "doc") 233)] 0) #[])
def hO84 (P : Params) : Obj := (Obj.mk (Value.type "tuple") (Option.none) (Data.seq #[] 0) #[])
def hO85 (P : Params) : Obj := (Obj.mk Value.none (Option.none) (Data.func (FuncData.mk (Str.ofString "__init__") (Str.ofString "_tuplegetter.__init__") (hArg (hSub 5 0)) (FuncBody.stmts (hBody (hSub 5 0))) (hScope (hSub 5 0)) 0 [] Value.none Value.none Value.none Value.none (Option.none) Value.none Value.none 0)) #[])
def hO86 (P : Params) : Obj := (Obj.mk (Value.type "code") (Option.none) (Data.fields #[(Value.str (Str.ofString "__init__") 228), (Value.str (Str.ofString "_tuplegetter.__init__") 229), (Value.str (Str.ofString "/claim/cut.py") 230), (Value.int 14 0), (Value.int 3 0), (Value.int 0 0), (Value.int 0 0), (Value.int 3 0), (Value.ref 43), (Value.bool Bool.true), (Value.int 181 0), (Value.ref 44), Value.none, (Value.ref 45), (Value.ref 46), (Value.ref 47), (Value.int 234 0), (Value.int 14 0), (Value.str (Str.ofString "/claim/cut.py") 235)]) #[])
def hO87 (P : Params) : Obj := (Obj.mk (Value.type "function") (Option.none) (Data.func (FuncData.mk (Str.ofString "__init__") (Str.ofString "_tuplegetter.__init__") (hArg (hSub 5 0)) (FuncBody.stmts (hBody (hSub 5 0))) (hScope (hSub 5 0)) 3 [] Value.none Value.none Value.none (Value.str (Str.ofString "sect.core.hints") 214) (Option.none) (Value.ref 48) Value.none 0)) #[])
def hO88 (P : Params) : Obj := (Obj.mk (Value.type "tuple") (Option.none) (Data.seq #[Value.none] 0) #[])
def hO89 (P : Params) : Obj := (Obj.mk (Value.type "tuple") (Option.none) (Data.seq #[] 0) #[])
def hO90 (P : Params) : Obj := (Obj.mk Value.none (Option.none) (Data.fields #[]) #[])
def hO91 (P : Params) : Obj := (Obj.mk (Value.type "tuple") (Option.none) (Data.seq #[(Value.str (Str.ofString "self") 240), (Value.str (Str.ofString "obj") 241), (Value.str (Str.ofString "objtype") 242)] 0) #[])
def hO92 (P : Params) : Obj := (Obj.mk (Value.type "tuple") (Option.none) (Data.seq #[] 0) #[])
def hO93 (P : Params) : Obj := (Obj.mk Value.none (Option.none) (Data.func (FuncData.mk (Str.ofString "__get__") (Str.ofString "_tuplegetter.__get__") (hArg (hSub 5 1)) (FuncBody.stmts (hBody (hSub 5 1))) (hScope (hSub 5 1)) 0 [] Value.none Value.none Value.none Value.none (Option.none) Value.none Value.none 0)) #[])
def hO94 (P : Params) : Obj := (Obj.mk (Value.type "code") (Option.none) (Data.fields #[(Value.str (Str.ofString "__get__") 237), (Value.str (Str.ofString "_tuplegetter.__get__") 238), (Value.str (Str.ofString "/claim/cut.py") 239), (Value.int 18 0), (Value.int 3 0), (Value.int 0 0), (Value.int 0 0), (Value.int 3 0), (Value.ref 51), (Value.bool Bool.true), (Value.int 181 0), (Value.ref 52), Value.none, (Value.ref 53), (Value.ref 54), (Value.ref 55), (Value.int 243 0), (Value.int 18 0), (Value.str (Str.ofString "/claim/cut.py") 244)]) #[])
def hO95 (P : Params) : Obj := (Obj.mk (Value.type "function") (Option.none) (Data.func (FuncData.mk (Str.ofString "__get__") (Str.ofString "_tuplegetter.__get__") (hArg (hSub 5 1)) (FuncBody.stmts (hBody (hSub 5 1))) (hScope (hSub 5 1)) 3 [] (Value.ref 50) Value.none Value.none (Value.str (Str.ofString "sect.core.hints") 214) (Option.none) (Value.ref 56) Value.none 0)) #[])
def hO96 (P : Params) : Obj := (Obj.mk (Value.type "tuple") (Option.none) (Data.seq #[] 0) #[])
def hO97 (P : Params) : Obj := (Obj.mk Value.none (Option.none) (Data.fields #[]) #[])
def hO98 (P : Params) : Obj := (Obj.mk (Value.type "tuple") (Option.none) (Data.seq #[(Value.str (Str.ofString "self") 249), (Value.str (Str.ofString "obj") 250), (Value.str (Str.ofString "value") 251)] 0) #[])
def hO99 (P : Params) : Obj := (Obj.mk (Value.type "tuple") (Option.none) (Data.seq #[] 0) #[])
def hO100 (P : Params) : Obj := (Obj.mk Value.none (Option.none) (Data.func (FuncData.mk (Str.ofString "__set__") (Str.ofString "_tuplegetter.__set__") (hArg (hSub 5 2)) (FuncBody.stmts (hBody (hSub 5 2))) (hScope (hSub 5 2)) 0 [] Value.none Value.none Value.none Value.none (Option.none) Value.none Value.none 0)) #[])
def hO101 (P : Params) : Obj := (Obj.mk (Value.type "code") (Option.none) (Data.fields #[(Value.str (Str.ofString "__set__") 246), (Value.str (Str.ofString "_tuplegetter.__set__") 247), (Value.str (Str.ofString "/claim/cut.py") 248), (Value.int 25 0), (Value.int 3 0), (Value.int 0 0), (Value.int 0 0), (Value.int 3 0), (Value.ref 58), (Value.bool Bool.true), (Value.int 181 0), (Value.ref 59), Value.none, (Value.ref 60), (Value.ref 61), (Value.ref 62), (Value.int 252 0), (Value.int 25 0), (Value.str (Str.ofString "/claim/cut.py") 253)]) #[])
def hO102 (P : Params) : Obj := (Obj.mk (Value.type "function") (Option.none) (Data.func (FuncData.mk (Str.ofString "__set__") (Str.ofString "_tuplegetter.__set__") (hArg (hSub 5 2)) (FuncBody.stmts (hBody (hSub 5 2))) (hScope (hSub 5 2)) 3 [] Value.none Value.none Value.none (Value.str (Str.ofString "sect.core.hints") 214) (Option.none) (Value.ref 63) Value.none 0)) #[])
def hO103 (P : Params) : Obj := (Obj.mk (Value.type "tuple") (Option.none) (Data.seq #[] 0) #[])
def hO104 (P : Params) : Obj := (Obj.mk Value.none (Option.none) (Data.fields #[]) #[])
def hO105 (P : Params) : Obj := (Obj.mk (Value.type "tuple") (Option.none) (Data.seq #[(Value.str (Str.ofString "self") 258), (Value.str (Str.ofString "obj") 259)] 0) #[])
def hO106 (P : Params) : Obj := (Obj.mk (Value.type "tuple") (Option.none) (Data.seq #[] 0) #[])
def hO107 (P : Params) : Obj := (Obj.mk Value.none (Option.none) (Data.func (FuncData.mk (Str.ofString "__delete__") (Str.ofString "_tuplegetter.__delete__") (hArg (hSub 5 3)) (FuncBody.stmts (hBody (hSub 5 3))) (hScope (hSub 5 3)) 0 [] Value.none Value.none Value.none Value.none (Option.none) Value.none Value.none 0)) #[])
def hO108 (P : Params) : Obj := (Obj.mk (Value.type "code") (Option.none) (Data.fields #[(Value.str (Str.ofString "__delete__") 255), (Value.str (Str.ofString "_tuplegetter.__delete__") 256), (Value.str (Str.ofString "/claim/cut.py") 257), (Value.int 28 0), (Value.int 2 0), (Value.int 0 0), (Value.int 0 0), (Value.int 3 0), (Value.ref 65), (Value.bool Bool.true), (Value.int 181 0), (Value.ref 66), Value.none, (Value.ref 67), (Value.ref 68), (Value.ref 69), (Value.int 260 0), (Value.int 28 0), (Value.str (Str.ofString "/claim/cut.py") 261)]) #[])
def hO109 (P : Params) : Obj := (Obj.mk (Value.type "function") (Option.none) (Data.func (FuncData.mk (Str.ofString "__delete__") (Str.ofString "_tuplegetter.__delete__") (hArg (hSub 5 3)) (FuncBody.stmts (hBody (hSub 5 3))) (hScope (hSub 5 3)) 3 [] Value.none Value.none Value.none (Value.str (Str.ofString "sect.core.hints") 214) (Option.none) (Value.ref 70) Value.none 0)) #[])
def hO110 (P : Params) : Obj := (Obj.mk (Value.type "tuple") (Option.none) (Data.seq #[(Value.str (Str.ofString "__doc__") 263), (Value.str (Str.ofString "index") 264)] 0) #[])
def hO111 (P : Params) : Obj := (Obj.mk (Value.type "dict") (Option.none) (Data.dict #[(DictEntry.mk (PyData.keyHash P (Str.ofString "__module__")) (Value.str (Str.ofString "__module__") 223) (Value.str (Str.ofString "sect.core.hints") 214)), (DictEntry.mk (PyData.keyHash P (Str.ofString "__firstlineno__")) (Value.str (Str.ofString "__firstlineno__") 227) (Value.int 12 226)), (DictEntry.mk (PyData.keyHash P (Str.ofString "__init__")) (Value.str (Str.ofString "__init__") 236) (Value.ref 49)), (DictEntry.mk (PyData.keyHash P (Str.ofString "__get__")) (Value.str (Str.ofString "__get__") 245) (Value.ref 57)), (DictEntry.mk (PyData.keyHash P (Str.ofString "__set__")) (Value.str (Str.ofString "__set__") 254) (Value.ref 64)), (DictEntry.mk (PyData.keyHash P (Str.ofString "__delete__")) (Value.str (Str.ofString "__delete__") 262) (Value.ref 71)), (DictEntry.mk (PyData.keyHash P (Str.ofString "__static_attributes__")) (Value.str (Str.ofString "__static_attributes__") 265) (Value.ref 72)), (DictEntry.mk (PyData.keyHash P (Str.ofString "__dict__")) (Value.str (Str.ofString "__dict__") 267) (Value.ref 75)), (DictEntry.mk (PyData.keyHash P (Str.ofString "__weakref__")) (Value.str (Str.ofString "__weakref__") 269) (Value.ref 76)), (DictEntry.mk (PyData.keyHash P (Str.ofString "__doc__")) (Value.str (Str.ofString "__doc__") 270) Value.none)] 4) #[])
def hO112 (P : Params) : Obj := (Obj.mk (Value.type "type") (Option.none) (Data.cls (ClassData.mk (Str.ofString "_tuplegetter") [(Value.type "object")] [(Value.ref 74), (Value.type "object")] 73 (Str.ofString "_tuplegetter") Bool.true [] [] Bool.false (Option.none) Bool.false)) #[(Option.none), (Option.none), (Option.some (Value.str (Str.ofString "_tuplegetter") 216)), (Option.some (Value.str (Str.ofString "_tuplegetter") 224)), (Option.some (Value.builtin "object.__new__")), (Option.some (Value.bool Bool.true))])
def hO113 (P : Params) : Obj := (Obj.mk (Value.type "getset_descriptor") (Option.none) (Data.fields #[(Value.str (Str.ofString "__dict__") 266), (Value.ref 74), (Value.builtin "function.__dict__"), (Value.builtin "function.__dict__#set")]) #[])
def hO114 (P : Params) : Obj := (Obj.mk (Value.type "getset_descriptor") (Option.none) (Data.fields #[(Value.str (Str.ofString "__weakref__") 268), (Value.ref 74), (Value.builtin "ExceptionGroup.__weakref__"), Value.none]) #[])
def hO115 (P : Params) : Obj := (Obj.mk (Value.type "super") (Option.none) (Data.fields #[(Value.ref 74), (Value.ref 74), (Value.ref 74)]) #[])
def hO116 (P : Params) : Obj := (Obj.mk (Value.type "builtin_function_or_method") (Option.none) (Data.fields #[(Value.builtin "object.__init_subclass__"), (Value.ref 74)]) #[])
def hO117 (P : Params) : Obj := (Obj.mk (Value.type "dict") (Option.none) (Data.dict #[(DictEntry.mk (PyData.keyHash P (Str.ofString "__name__")) (Value.str (Str.ofString "__name__") 165) (Value.str (Str.ofString "sect.core.hints") 214)), (DictEntry.mk (PyData.keyHash P (Str.ofString "__doc__")) (Value.str (Str.ofString "__doc__") 166) Value.none), (DictEntry.mk (PyData.keyHash P (Str.ofString "__package__")) (Value.str (Str.ofString "__package__") 167) Value.none), (DictEntry.mk (PyData.keyHash P (Str.ofString "__loader__")) (Value.str (Str.ofString "__loader__") 168) (Value.builtin "__main__.__loader__#opaque")), (DictEntry.mk (PyData.keyHash P (Str.ofString "__spec__")) (Value.str (Str.ofString "__spec__") 169) Value.none), (DictEntry.mk (PyData.keyHash P (Str.ofString "__annotations__")) (Value.str (Str.ofString "__annotations__") 170) (Value.ref 6)), (DictEntry.mk (PyData.keyHash P (Str.ofString "__builtins__")) (Value.str (Str.ofString "__builtins__") 171) (Value.ref 4)), (DictEntry.mk (PyData.keyHash P (Str.ofString "__file__")) (Value.str (Str.ofString "__file__") 173) (Value.str (Str.ofString "/claim/cut.py") 172)), (DictEntry.mk (PyData.keyHash P (Str.ofString "__cached__")) (Value.str (Str.ofString "__cached__") 174) Value.none), (DictEntry.mk (PyData.keyHash P (Str.ofString "_wall")) (Value.str (Str.ofString "_wall") 193) (Value.ref 21)), (DictEntry.mk (PyData.keyHash P (Str.ofString "arg_min")) (Value.str (Str.ofString "arg_min") 203) (Value.ref 28)), (DictEntry.mk (PyData.keyHash P (Str.ofString "to_contour_orientation")) (Value.str (Str.ofString "to_contour_orientation") 213) (Value.ref 35)), (DictEntry.mk (PyData.keyHash P (Str.ofString "_tuplegetter")) (Value.str (Str.ofString "_tuplegetter") 272) (Value.ref 74)), (DictEntry.mk (PyData.keyHash P (Str.ofString "Point")) (Value.str (Str.ofString "Point") 387) (Value.ref 146))] 14) #[])
def hO118 (P : Params) : Obj := (Obj.mk Value.none (Option.none) (Data.fields #[(Value.int 1 0), (Value.int 0 0), (Value.ref 20), (Value.int 5 0), (Value.int 0 0), (Value.ref 27), (Value.int 7 0), (Value.int 0 0), (Value.ref 34), (Value.int 12 0), (Value.int 0 0), (Value.ref 41), (Value.int 30 0), (Value.int 0 0), (Value.ref 85)]) #[])
def hO119 (P : Params) : Obj := (Obj.mk (Value.type "tuple") (Option.none) (Data.seq #[(Value.type "tuple")] 0) #[])
def hO120 (P : Params) : Obj := (Obj.mk (Value.type "builtin_function_or_method") (Option.none) (Data.fields #[(Value.builtin "type.__prepare__"), (Value.type "type")]) #[])
def hO121 (P : Params) : Obj := (Obj.mk (Value.type "dict") (Option.none) (Data.dict #[(DictEntry.mk (PyData.keyHash P (Str.ofString "__module__")) (Value.str (Str.ofString "__module__") 280) (Value.str (Str.ofString "sect.core.hints") 214)), (DictEntry.mk (PyData.keyHash P (Str.ofString "__qualname__")) (Value.str (Str.ofString "__qualname__") 282) (Value.str (Str.ofString "Point") 281)), (DictEntry.mk (PyData.keyHash P (Str.ofString "__firstlineno__")) (Value.str (Str.ofString "__firstlineno__") 284) (Value.int 30 283)), (DictEntry.mk (PyData.keyHash P (Str.ofString "__doc__")) (Value.str (Str.ofString "__doc__") 286) (Value.str (Str.ofString "Point(x, y)") 285)), (DictEntry.mk (PyData.keyHash P (Str.ofString "__slots__")) (Value.str (Str.ofString "__slots__") 288) (Value.ref 87)), (DictEntry.mk (PyData.keyHash P (Str.ofString "_fields")) (Value.str (Str.ofString "_fields") 291) (Value.ref 88)), (DictEntry.mk (PyData.keyHash P (Str.ofString "_field_defaults")) (Value.str (Str.ofString "_field_defaults") 292) (Value.ref 89)), (DictEntry.mk (PyData.keyHash P (Str.ofString "__new__")) (Value.str (Str.ofString "__new__") 302) (Value.ref 96)), (DictEntry.mk (PyData.keyHash P (Str.ofString "_make")) (Value.str (Str.ofString "_make") 324) (Value.ref 105)), (DictEntry.mk (PyData.keyHash P (Str.ofString "_replace")) (Value.str (Str.ofString "_replace") 335) (Value.ref 114)), (DictEntry.mk (PyData.keyHash P (Str.ofString "__replace__")) (Value.str (Str.ofString "__replace__") 336) (Value.ref 114)), (DictEntry.mk (PyData.keyHash P (Str.ofString "__repr__")) (Value.str (Str.ofString "__repr__") 344) (Value.ref 121)), (DictEntry.mk (PyData.keyHash P (Str.ofString "_asdict")) (Value.str (Str.ofString "_asdict") 351) (Value.ref 128)), (DictEntry.mk (PyData.keyHash P (Str.ofString "__getnewargs__")) (Value.str (Str.ofString "__getnewargs__") 359) (Value.ref 135)), (DictEntry.mk (PyData.keyHash P (Str.ofString "__match_args__")) (Value.str (Str.ofString "__match_args__") 362) (Value.ref 136)), (DictEntry.mk (PyData.keyHash P (Str.ofString "x")) (Value.str (Str.ofString "x") 372) (Value.ref 138)), (DictEntry.mk (PyData.keyHash P (Str.ofString "y")) (Value.str (Str.ofString "y") 382) (Value.ref 141)), (DictEntry.mk (PyData.keyHash P (Str.ofString "__static_attributes__")) (Value.str (Str.ofString "__static_attributes__") 383) (Value.ref 143)), (DictEntry.mk (PyData.keyHash P (Str.ofString "__classcell__")) (Value.str (Str.ofString "__classcell__") 384) (Value.ref 82))] 19) #[])
def hO122 (P : Params) : Obj := (Obj.mk (Value.type "cell") (Option.none) (Data.cell (Option.some (Value.ref 146))) #[])
def hO123 (P : Params) : Obj := (Obj.mk (Value.type "tuple") (Option.none) (Data.seq #[] 0) #[])
def hO124 (P : Params) : Obj := (Obj.mk Value.none (Option.none) (Data.fields #[(Value.int 36 0), (Value.int 4 0), (Value.ref 95), (Value.int 41 0), (Value.int 4 0), (Value.ref 102), (Value.int 48 0), (Value.int 4 0), (Value.ref 113), (Value.int 59 0), (Value.int 4 0), (Value.ref 120), (Value.int 63 0), (Value.int 4 0), (Value.ref 127), (Value.int 66 0), (Value.int 4 0), (Value.ref 134)]) #[])
def hO125 (P : Params) : Obj := (Obj.mk (Value.type "code") (Option.none) (Data.fields #[(Value.str (Str.ofString "Point") 275), (Value.str (Str.ofString "Point") 276), (Value.str (Str.ofString "/claim/cut.py") 277), (Value.int 30 0), (Value.int 0 0), (Value.int 0 0), (Value.int 0 0), (Value.int 0 0), (Value.ref 83), (Value.bool Bool.false), (Value.int 181 0), (Value.ref 84), Value.none, Value.none, Value.none, Value.none, (Value.int 278 0), (Value.int 30 0), (Value.str (Str.ofString "/claim/cut.py") 279)]) #[])
def hO126 (P : Params) : Obj := (Obj.mk (Value.type "frame") (Option.none) Data.plain #[(Option.some (Value.ref 85)), (Option.some (Value.ref 3)), (Option.some (Value.ref 81)), (Option.none), (Option.some (Value.str (Str.ofString "sect.core.hints") 214)), (Option.none), (Option.some (Value.ref 0))])
def hO127 (P : Params) : Obj := (Obj.mk (Value.type "tuple") (Option.none) (Data.seq #[] 0) #[])
def hO128 (P : Params) : Obj := (Obj.mk (Value.type "tuple") (Option.none) (Data.seq #[(Value.str (Str.ofString "x") 289), (Value.str (Str.ofString "y") 290)] 0) #[])
def hO129 (P : Params) : Obj := (Obj.mk (Value.type "dict") (Option.none) (Data.dict #[] 0) #[])
def hO130 (P : Params) : Obj := (Obj.mk (Value.type "tuple") (Option.none) (Data.seq #[] 0) #[])
def hO131 (P : Params) : Obj := (Obj.mk Value.none (Option.none) (Data.fields #[]) #[])
def hO132 (P : Params) : Obj := (Obj.mk (Value.type "tuple") (Option.none) (Data.seq #[(Value.str (Str.ofString "_cls") 296), (Value.str (Str.ofString "x") 297), (Value.str (Str.ofString "y") 298)] 0) #[])
def hO133 (P : Params) : Obj := (Obj.mk (Value.type "tuple") (Option.none) (Data.seq #[] 0) #[])
def hO134 (P : Params) : Obj := (Obj.mk Value.none (Option.none) (Data.func (FuncData.mk (Str.ofString "__new__") (Str.ofString "Point.__new__") (hArg (hSub 6 4)) (FuncBody.stmts (hBody (hSub 6 4))) (hScope (hSub 6 4)) 0 [] Value.none Value.none Value.none Value.none (Option.none) Value.none Value.none 0)) #[])
def hO135 (P : Params) : Obj := (Obj.mk (Value.type "code") (Option.none) (Data.fields #[(Value.str (Str.ofString "__new__") 293), (Value.str (Str.ofString "Point.__new__") 294), (Value.str (Str.ofString "/claim/cut.py") 295), (Value.int 36 0), (Value.int 3 0), (Value.int 0 0), (Value.int 0 0), (Value.int 3 0), (Value.ref 90), (Value.bool Bool.true), (Value.int 181 0), (Value.ref 91), Value.none, (Value.ref 92), (Value.ref 93), (Value.ref 94), (Value.int 299 0), (Value.int 36 0), (Value.str (Str.ofString "/claim/cut.py") 300)]) #[])
def hO136 (P : Params) : Obj := (Obj.mk (Value.type "function") (Option.none) (Data.func (FuncData.mk (Str.ofString "__new__") (Str.ofString "Point.__new__") (hArg (hSub 6 4)) (FuncBody.stmts (hBody (hSub 6 4))) (hScope (hSub 6 4)) 3 [] Value.none Value.none (Value.str (Str.ofString "Create new instance of Point(x, y)") 301) (Value.str (Str.ofString "sect.core.hints") 214) (Option.none) (Value.ref 95) Value.none 0)) #[])
def hO137 (P : Params) : Obj := (Obj.mk (Value.type "tuple") (Option.none) (Data.seq #[] 0) #[])
def hO138 (P : Params) : Obj := (Obj.mk Value.none (Option.none) (Data.fields #[]) #[])
def hO139 (P : Params) : Obj := (Obj.mk (Value.type "tuple") (Option.none) (Data.seq #[(Value.str (Str.ofString "cls") 306), (Value.str (Str.ofString "iterable") 307), (Value.str (Str.ofString "result") 308)] 0) #[])
def hO140 (P : Params) : Obj := (Obj.mk (Value.type "tuple") (Option.none) (Data.seq #[] 0) #[])
def hO141 (P : Params) : Obj := (Obj.mk Value.none (Option.none) (Data.func (FuncData.mk (Str.ofString "_make") (Str.ofString "Point._make") (hArg (hSub 6 5)) (FuncBody.stmts (hBody (hSub 6 5))) (hScope (hSub 6 5)) 0 [] Value.none Value.none Value.none Value.none (Option.none) Value.none Value.none 0)) #[])
def hO142 (P : Params) : Obj := (Obj.mk (Value.type "code") (Option.none) (Data.fields #[(Value.str (Str.ofString "_make") 303), (Value.str (Str.ofString "Point._make") 304), (Value.str (Str.ofString "/claim/cut.py") 305), (Value.int 40 0), (Value.int 2 0), (Value.int 0 0), (Value.int 0 0), (Value.int 3 0), (Value.ref 97), (Value.bool Bool.true), (Value.int 181 0), (Value.ref 98), Value.none, (Value.ref 99), (Value.ref 100), (Value.ref 101), (Value.int 309 0), (Value.int 40 0), (Value.str (Str.ofString "/claim/cut.py") 310)]) #[])
def hO143 (P : Params) : Obj := (Obj.mk (Value.type "function") (Option.none) (Data.func (FuncData.mk (Str.ofString "_make") (Str.ofString "Point._make") (hArg (hSub 6 5)) (FuncBody.stmts (hBody (hSub 6 5))) (hScope (hSub 6 5)) 3 [] Value.none Value.none (Value.str (Str.ofString "Make a new Point object from a sequence or iterable") 311) (Value.str (Str.ofString "sect.core.hints") 214) (Option.some 106) (Value.ref 102) Value.none 0)) #[])
def hO144 (P : Params) : Obj := (Obj.mk (Value.type "dict") (Option.none) (Data.dict #[(DictEntry.mk (PyData.keyHash P (Str.ofString "__module__")) (Value.str (Str.ofString "__module__") 313) (Value.str (Str.ofString "sect.core.hints") 214)), (DictEntry.mk (PyData.keyHash P (Str.ofString "__name__")) (Value.str (Str.ofString "__name__") 316) (Value.str (Str.ofString "_make") 315)), (DictEntry.mk (PyData.keyHash P (Str.ofString "__qualname__")) (Value.str (Str.ofString "__qualname__") 319) (Value.str (Str.ofString "Point._make") 318)), (DictEntry.mk (PyData.keyHash P (Str.ofString "__doc__")) (Value.str (Str.ofString "__doc__") 321) (Value.str (Str.ofString "Make a new Point object from a sequence or iterable") 311)), (DictEntry.mk (PyData.keyHash P (Str.ofString "__annotations__")) (Value.str (Str.ofString "__annotations__") 323) (Value.ref 106))] 5) #[])
def hO145 (P : Params) : Obj := (Obj.mk (Value.type "classmethod") (Option.some 104) (Data.fields #[(Value.ref 103), (Value.bool Bool.false)]) #[])
def hO146 (P : Params) : Obj := (Obj.mk (Value.type "dict") (Option.none) (Data.dict #[] 0) #[])
def hO147 (P : Params) : Obj := (Obj.mk (Value.type "tuple") (Option.none) (Data.seq #[(Value.ref 82)] 0) #[])
def hO148 (P : Params) : Obj := (Obj.mk (Value.type "tuple") (Option.none) (Data.seq #[(Value.str (Str.ofString "__class__") 328)] 0) #[])
def hO149 (P : Params) : Obj := (Obj.mk Value.none (Option.none) (Data.fields #[]) #[])
def hO150 (P : Params) : Obj := (Obj.mk (Value.type "tuple") (Option.none) (Data.seq #[(Value.str (Str.ofString "self") 329), (Value.str (Str.ofString "kwds") 330), (Value.str (Str.ofString "result") 331)] 0) #[])
def hO151 (P : Params) : Obj := (Obj.mk (Value.type "tuple") (Option.none) (Data.seq #[] 0) #[])
def hO152 (P : Params) : Obj := (Obj.mk Value.none (Option.none) (Data.func (FuncData.mk (Str.ofString "_replace") (Str.ofString "Point._replace") (hArg (hSub 6 6)) (FuncBody.stmts (hBody (hSub 6 6))) (hScope (hSub 6 6)) 0 [] Value.none Value.none Value.none Value.none (Option.none) Value.none Value.none 0)) #[])
def hO153 (P : Params) : Obj := (Obj.mk (Value.type "code") (Option.none) (Data.fields #[(Value.str (Str.ofString "_replace") 325), (Value.str (Str.ofString "Point._replace") 326), (Value.str (Str.ofString "/claim/cut.py") 327), (Value.int 48 0), (Value.int 1 0), (Value.int 1 0), (Value.int 0 0), (Value.int 11 0), (Value.ref 108), (Value.bool Bool.true), (Value.int 181 0), (Value.ref 109), Value.none, (Value.ref 110), (Value.ref 111), (Value.ref 112), (Value.int 332 0), (Value.int 48 0), (Value.str (Str.ofString "/claim/cut.py") 333)]) #[])
def hO154 (P : Params) : Obj := (Obj.mk (Value.type "function") (Option.none) (Data.func (FuncData.mk (Str.ofString "_replace") (Str.ofString "Point._replace") (hArg (hSub 6 6)) (FuncBody.stmts (hBody (hSub 6 6))) (hScope (hSub 6 6)) 3 [((Str.ofString "__class__"), 82)] Value.none Value.none (Value.str (Str.ofString "Return a new Point object replacing specified fields with new values") 334) (Value.str (Str.ofString "sect.core.hints") 214) (Option.none) (Value.ref 113) (Value.ref 107) 0)) #[])
def hO155 (P : Params) : Obj := (Obj.mk (Value.type "tuple") (Option.none) (Data.seq #[] 0) #[])
def hO156 (P : Params) : Obj := (Obj.mk Value.none (Option.none) (Data.fields #[]) #[])
def hO157 (P : Params) : Obj := (Obj.mk (Value.type "tuple") (Option.none) (Data.seq #[(Value.str (Str.ofString "self") 340)] 0) #[])
def hO158 (P : Params) : Obj := (Obj.mk (Value.type "tuple") (Option.none) (Data.seq #[] 0) #[])
def hO159 (P : Params) : Obj := (Obj.mk Value.none (Option.none) (Data.func (FuncData.mk (Str.ofString "__repr__") (Str.ofString "Point.__repr__") (hArg (hSub 6 8)) (FuncBody.stmts (hBody (hSub 6 8))) (hScope (hSub 6 8)) 0 [] Value.none Value.none Value.none Value.none (Option.none) Value.none Value.none 0)) #[])
def hO160 (P : Params) : Obj := (Obj.mk (Value.type "code") (Option.none) (Data.fields #[(Value.str (Str.ofString "__repr__") 337), (Value.str (Str.ofString "Point.__repr__") 338), (Value.str (Str.ofString "/claim/cut.py") 339), (Value.int 59 0), (Value.int 1 0), (Value.int 0 0), (Value.int 0 0), (Value.int 3 0), (Value.ref 115), (Value.bool Bool.true), (Value.int 181 0), (Value.ref 116), Value.none, (Value.ref 117), (Value.ref 118), (Value.ref 119), (Value.int 341 0), (Value.int 59 0), (Value.str (Str.ofString "/claim/cut.py") 342)]) #[])
def hO161 (P : Params) : Obj := (Obj.mk (Value.type "function") (Option.none) (Data.func (FuncData.mk (Str.ofString "__repr__") (Str.ofString "Point.__repr__") (hArg (hSub 6 8)) (FuncBody.stmts (hBody (hSub 6 8))) (hScope (hSub 6 8)) 3 [] Value.none Value.none (Value.str (Str.ofString "Return a nicely formatted representation string") 343) (Value.str (Str.ofString "sect.core.hints") 214) (Option.none) (Value.ref 120) Value.none 0)) #[])
def hO162 (P : Params) : Obj := (Obj.mk (Value.type "tuple") (Option.none) (Data.seq #[] 0) #[])
def hO163 (P : Params) : Obj := (Obj.mk Value.none (Option.none) (Data.fields #[]) #[])
def hO164 (P : Params) : Obj := (Obj.mk (Value.type "tuple") (Option.none) (Data.seq #[(Value.str (Str.ofString "self") 348)] 0) #[])
def hO165 (P : Params) : Obj := (Obj.mk (Value.type "tuple") (Option.none) (Data.seq #[] 0) #[])
def hO166 (P : Params) : Obj := (Obj.mk Value.none (Option.none) (Data.func (FuncData.mk (Str.ofString "_asdict") (Str.ofString "Point._asdict") (hArg (hSub 6 9)) (FuncBody.stmts (hBody (hSub 6 9))) (hScope (hSub 6 9)) 0 [] Value.none Value.none Value.none Value.none (Option.none) Value.none Value.none 0)) #[])
def hO167 (P : Params) : Obj := (Obj.mk (Value.type "code") (Option.none) (Data.fields #[(Value.str (Str.ofString "_asdict") 345), (Value.str (Str.ofString "Point._asdict") 346), (Value.str (Str.ofString "/claim/cut.py") 347), (Value.int 63 0), (Value.int 1 0), (Value.int 0 0), (Value.int 0 0), (Value.int 3 0), (Value.ref 122), (Value.bool Bool.true), (Value.int 181 0), (Value.ref 123), Value.none, (Value.ref 124), (Value.ref 125), (Value.ref 126), (Value.int 349 0), (Value.int 63 0), (Value.str (Str.ofString "/claim/cut.py") 350)]) #[])
def hO168 (P : Params) : Obj := (Obj.mk (Value.type "function") (Option.none) (Data.func (FuncData.mk (Str.ofString "_asdict") (Str.ofString "Point._asdict") (hArg (hSub 6 9)) (FuncBody.stmts (hBody (hSub 6 9))) (hScope (hSub 6 9)) 3 [] Value.none Value.none Value.none (Value.str (Str.ofString "sect.core.hints") 214) (Option.none) (Value.ref 127) Value.none 0)) #[])
def hO169 (P : Params) : Obj := (Obj.mk (Value.type "tuple") (Option.none) (Data.seq #[] 0) #[])
def hO170 (P : Params) : Obj := (Obj.mk Value.none (Option.none) (Data.fields #[]) #[])
def hO171 (P : Params) : Obj := (Obj.mk (Value.type "tuple") (Option.none) (Data.seq #[(Value.str (Str.ofString "self") 355)] 0) #[])
def hO172 (P : Params) : Obj := (Obj.mk (Value.type "tuple") (Option.none) (Data.seq #[] 0) #[])
def hO173 (P : Params) : Obj := (Obj.mk Value.none (Option.none) (Data.func (FuncData.mk (Str.ofString "__getnewargs__") (Str.ofString "Point.__getnewargs__") (hArg (hSub 6 10)) (FuncBody.stmts (hBody (hSub 6 10))) (hScope (hSub 6 10)) 0 [] Value.none Value.none Value.none Value.none (Option.none) Value.none Value.none 0)) #[])
def hO174 (P : Params) : Obj := (Obj.mk (Value.type "code") (Option.none) (Data.fields #[(Value.str (Str.ofString "__getnewargs__") 352), (Value.str (Str.ofString "Point.__getnewargs__") 353), (Value.str (Str.ofString "/claim/cut.py") 354), (Value.int 66 0), (Value.int 1 0), (Value.int 0 0), (Value.int 0 0), (Value.int 3 0), (Value.ref 129), (Value.bool Bool.true), (Value.int 181 0), (Value.ref 130), Value.none, (Value.ref 131), (Value.ref 132), (Value.ref 133), (Value.int 356 0), (Value.int 66 0), (Value.str (Str.ofString "/claim/cut.py") 357)]) #[])
def hO175 (P : Params) : Obj := (Obj.mk (Value.type "function") (Option.none) (Data.func (FuncData.mk (Str.ofString "__getnewargs__") (Str.ofString "Point.__getnewargs__") (hArg (hSub 6 10)) (FuncBody.stmts (hBody (hSub 6 10))) (hScope (hSub 6 10)) 3 [] Value.none Value.none (Value.str (Str.ofString "Return self as a plain tuple.  Used by copy and pickle.") 358) (Value.str (Str.ofString "sect.core.hints") 214) (Option.none) (Value.ref 134) Value.none 0)) #[])
def hO176 (P : Params) : Obj := (Obj.mk (Value.type "tuple") (Option.none) (Data.seq #[(Value.str (Str.ofString "x") 360), (Value.str (Str.ofString "y") 361)] 0) #[])
def hO177 (P : Params) : Obj := (Obj.mk (Value.type "dict") (Option.none) (Data.dict #[(DictEntry.mk (PyData.keyHash P (Str.ofString "index")) (Value.str (Str.ofString "index") 369) (Value.int 0 363)), (DictEntry.mk (PyData.keyHash P (Str.ofString "__doc__")) (Value.str (Str.ofString "__doc__") 371) (Value.str (Str.ofString "Alias for field number 0") 364))] 2) #[])
def hO178 (P : Params) : Obj := (Obj.mk (Value.ref 74) (Option.some 137) Data.plain #[])
def hO179 (P : Params) : Obj := (Obj.mk (Value.type "frame") (Option.none) (Data.dict #[(DictEntry.mk (PyData.keyHash P (Str.ofString "self")) (Value.str (Str.ofString "self") 365) (Value.ref 138)), (DictEntry.mk (PyData.keyHash P (Str.ofString "index")) (Value.str (Str.ofString "index") 366) (Value.int 0 363)), (DictEntry.mk (PyData.keyHash P (Str.ofString "doc")) (Value.str (Str.ofString "doc") 367) (Value.str (Str.ofString "Alias for field number 0") 364))] 3) #[])
def hO180 (P : Params) : Obj := (Obj.mk (Value.type "dict") (Option.none) (Data.dict #[(DictEntry.mk (PyData.keyHash P (Str.ofString "index")) (Value.str (Str.ofString "index") 379) (Value.int 1 373)), (DictEntry.mk (PyData.keyHash P (Str.ofString "__doc__")) (Value.str (Str.ofString "__doc__") 381) (Value.str (Str.ofString "Alias for field number 1") 374))] 2) #[])
def hO181 (P : Params) : Obj := (Obj.mk (Value.ref 74) (Option.some 140) Data.plain #[])
def hO182 (P : Params) : Obj := (Obj.mk (Value.type "frame") (Option.none) (Data.dict #[(DictEntry.mk (PyData.keyHash P (Str.ofString "self")) (Value.str (Str.ofString "self") 375) (Value.ref 141)), (DictEntry.mk (PyData.keyHash P (Str.ofString "index")) (Value.str (Str.ofString "index") 376) (Value.int 1 373)), (DictEntry.mk (PyData.keyHash P (Str.ofString "doc")) (Value.str (Str.ofString "doc") 377) (Value.str (Str.ofString "Alias for field number 1") 374))] 3) #[])
def hO183 (P : Params) : Obj := (Obj.mk (Value.type "tuple") (Option.none) (Data.seq #[] 0) #[])
def hO184 (P : Params) : Obj := (Obj.mk (Value.type "list") (Option.none) (Data.seq #[] 0) #[])
def hO185 (P : Params) : Obj := (Obj.mk (Value.type "dict") (Option.none) (Data.dict #[(DictEntry.mk (PyData.keyHash P (Str.ofString "__module__")) (Value.str (Str.ofString "__module__") 280) (Value.str (Str.ofString "sect.core.hints") 214)), (DictEntry.mk (PyData.keyHash P (Str.ofString "__firstlineno__")) (Value.str (Str.ofString "__firstlineno__") 284) (Value.int 30 283)), (DictEntry.mk (PyData.keyHash P (Str.ofString "__doc__")) (Value.str (Str.ofString "__doc__") 286) (Value.str (Str.ofString "Point(x, y)") 285)), (DictEntry.mk (PyData.keyHash P (Str.ofString "__slots__")) (Value.str (Str.ofString "__slots__") 288) (Value.ref 87)), (DictEntry.mk (PyData.keyHash P (Str.ofString "_fields")) (Value.str (Str.ofString "_fields") 291) (Value.ref 88)), (DictEntry.mk (PyData.keyHash P (Str.ofString "_field_defaults")) (Value.str (Str.ofString "_field_defaults") 292) (Value.ref 89)), (DictEntry.mk (PyData.keyHash P (Str.ofString "__new__")) (Value.str (Str.ofString "__new__") 302) (Value.ref 147)), (DictEntry.mk (PyData.keyHash P (Str.ofString "_make")) (Value.str (Str.ofString "_make") 324) (Value.ref 105)), (DictEntry.mk (PyData.keyHash P (Str.ofString "_replace")) (Value.str (Str.ofString "_replace") 335) (Value.ref 114)), (DictEntry.mk (PyData.keyHash P (Str.ofString "__replace__")) (Value.str (Str.ofString "__replace__") 336) (Value.ref 114)), (DictEntry.mk (PyData.keyHash P (Str.ofString "__repr__")) (Value.str (Str.ofString "__repr__") 344) (Value.ref 121)), (DictEntry.mk (PyData.keyHash P (Str.ofString "_asdict")) (Value.str (Str.ofString "_asdict") 351) (Value.ref 128)), (DictEntry.mk (PyData.keyHash P (Str.ofString "__getnewargs__")) (Value.str (Str.ofString "__getnewargs__") 359) (Value.ref 135)), (DictEntry.mk (PyData.keyHash P (Str.ofString "__match_args__")) (Value.str (Str.ofString "__match_args__") 362) (Value.ref 136)), (DictEntry.mk (PyData.keyHash P (Str.ofString "x")) (Value.str (Str.ofString "x") 372) (Value.ref 138)), (DictEntry.mk (PyData.keyHash P (Str.ofString "y")) (Value.str (Str.ofString "y") 382) (Value.ref 141)), (DictEntry.mk (PyData.keyHash P (Str.ofString "__static_attributes__")) (Value.str (Str.ofString "__static_attributes__") 383) (Value.ref 143))] 2) #[])
def hO186 (P : Params) : Obj := (Obj.mk (Value.type "type") (Option.none) (Data.cls (ClassData.mk (Str.ofString "Point") [(Value.type "tuple")] [(Value.ref 146), (Value.type "tuple"), (Value.type "object")] 145 (Str.ofString "Point") Bool.false [] [] Bool.false (Option.none) Bool.false)) #[(Option.some (Value.ref 79)), (Option.none), (Option.some (Value.str (Str.ofString "Point") 273)), (Option.some (Value.str (Str.ofString "Point") 281)), (Option.some Value.none), (Option.some (Value.bool Bool.false))])
def hO187 (P : Params) : Obj := (Obj.mk (Value.type "staticmethod") (Option.none) (Data.fields #[(Value.ref 96)]) #[])
def hO188 (P : Params) : Obj := (Obj.mk (Value.type "super") (Option.none) (Data.fields #[(Value.ref 146), (Value.ref 146), (Value.ref 146)]) #[])
def hO189 (P : Params) : Obj := (Obj.mk (Value.type "builtin_function_or_method") (Option.none) (Data.fields #[(Value.builtin "object.__init_subclass__"), (Value.ref 146)]) #[])
def hO243 (P : Params) : Obj := (Obj.mk (Value.type "dict") (Option.none) (Data.dict #[(DictEntry.mk (PyData.keyHash P (Str.ofString "__name__")) (Value.str (Str.ofString "__name__") 165) (Value.str (Str.ofString "sect.core.hints") 214)), (DictEntry.mk (PyData.keyHash P (Str.ofString "__doc__")) (Value.str (Str.ofString "__doc__") 166) Value.none), (DictEntry.mk (PyData.keyHash P (Str.ofString "__package__")) (Value.str (Str.ofString "__package__") 167) Value.none), (DictEntry.mk (PyData.keyHash P (Str.ofString "__loader__")) (Value.str (Str.ofString "__loader__") 168) (Value.builtin "__main__.__loader__#opaque")), (DictEntry.mk (PyData.keyHash P (Str.ofString "__spec__")) (Value.str (Str.ofString "__spec__") 169) Value.none), (DictEntry.mk (PyData.keyHash P (Str.ofString "__annotations__")) (Value.str (Str.ofString "__annotations__") 170) (Value.ref 6)), (DictEntry.mk (PyData.keyHash P (Str.ofString "__builtins__")) (Value.str (Str.ofString "__builtins__") 171) (Value.ref 4)), (DictEntry.mk (PyData.keyHash P (Str.ofString "__file__")) (Value.str (Str.ofString "__file__") 173) (Value.str (Str.ofString "/claim/cut.py") 172)), (DictEntry.mk (PyData.keyHash P (Str.ofString "__cached__")) (Value.str (Str.ofString "__cached__") 174) Value.none), (DictEntry.mk (PyData.keyHash P (Str.ofString "_wall")) (Value.str (Str.ofString "_wall") 193) (Value.ref 21)), (DictEntry.mk (PyData.keyHash P (Str.ofString "arg_min")) (Value.str (Str.ofString "arg_min") 203) (Value.ref 28)), (DictEntry.mk (PyData.keyHash P (Str.ofString "to_contour_orientation")) (Value.str (Str.ofString "to_contour_orientation") 213) (Value.ref 35)), (DictEntry.mk (PyData.keyHash P (Str.ofString "_tuplegetter")) (Value.str (Str.ofString "_tuplegetter") 272) (Value.ref 74)), (DictEntry.mk (PyData.keyHash P (Str.ofString "Point")) (Value.str (Str.ofString "Point") 387) (Value.ref 146)), (DictEntry.mk (PyData.keyHash P (Str.ofString "Kind")) (Value.str (Str.ofString "Kind") 425) (Value.ref 173))] 15) #[])
def hO244 (P : Params) : Obj := (Obj.mk Value.none (Option.none) (Data.fields #[(Value.int 1 0), (Value.int 0 0), (Value.ref 20), (Value.int 5 0), (Value.int 0 0), (Value.ref 27), (Value.int 7 0), (Value.int 0 0), (Value.ref 34), (Value.int 12 0), (Value.int 0 0), (Value.ref 41), (Value.int 30 0), (Value.int 0 0), (Value.ref 85), (Value.int 72 0), (Value.int 0 0), (Value.ref 155)]) #[])
def hO245 (P : Params) : Obj := (Obj.mk (Value.type "tuple") (Option.none) (Data.seq #[] 0) #[])
def hO246 (P : Params) : Obj := (Obj.mk (Value.type "builtin_function_or_method") (Option.none) (Data.fields #[(Value.builtin "type.__prepare__"), (Value.type "type")]) #[])
def hO247 (P : Params) : Obj := (Obj.mk (Value.type "dict") (Option.none) (Data.dict #[(DictEntry.mk (PyData.keyHash P (Str.ofString "__module__")) (Value.str (Str.ofString "__module__") 395) (Value.str (Str.ofString "sect.core.hints") 214)), (DictEntry.mk (PyData.keyHash P (Str.ofString "__qualname__")) (Value.str (Str.ofString "__qualname__") 397) (Value.str (Str.ofString "Kind") 396)), (DictEntry.mk (PyData.keyHash P (Str.ofString "__firstlineno__")) (Value.str (Str.ofString "__firstlineno__") 399) (Value.int 72 398)), (DictEntry.mk (PyData.keyHash P (Str.ofString "__doc__")) (Value.str (Str.ofString "__doc__") 401) (Value.str (Str.ofString "One of a few kinds, known by itself; it counts as false where its value is nought.") 400)), (DictEntry.mk (PyData.keyHash P (Str.ofString "__init__")) (Value.str (Str.ofString "__init__") 410) (Value.ref 163)), (DictEntry.mk (PyData.keyHash P (Str.ofString "__bool__")) (Value.str (Str.ofString "__bool__") 417) (Value.ref 170)), (DictEntry.mk (PyData.keyHash P (Str.ofString "__static_attributes__")) (Value.str (Str.ofString "__static_attributes__") 419) (Value.ref 171))] 7) #[])
def hO248 (P : Params) : Obj := (Obj.mk (Value.type "tuple") (Option.none) (Data.seq #[] 0) #[])
def hO249 (P : Params) : Obj := (Obj.mk Value.none (Option.none) (Data.fields #[(Value.int 75 0), (Value.int 4 0), (Value.ref 162), (Value.int 78 0), (Value.int 4 0), (Value.ref 169)]) #[])
def hO250 (P : Params) : Obj := (Obj.mk (Value.type "code") (Option.none) (Data.fields #[(Value.str (Str.ofString "Kind") 390), (Value.str (Str.ofString "Kind") 391), (Value.str (Str.ofString "/claim/cut.py") 392), (Value.int 72 0), (Value.int 0 0), (Value.int 0 0), (Value.int 0 0), (Value.int 0 0), (Value.ref 153), (Value.bool Bool.false), (Value.int 181 0), (Value.ref 154), Value.none, Value.none, Value.none, Value.none, (Value.int 393 0), (Value.int 72 0), (Value.str (Str.ofString "/claim/cut.py") 394)]) #[])
def hO251 (P : Params) : Obj := (Obj.mk (Value.type "frame") (Option.none) Data.plain #[(Option.some (Value.ref 155)), (Option.some (Value.ref 3)), (Option.some (Value.ref 152)), (Option.none), (Option.some (Value.str (Str.ofString "sect.core.hints") 214)), (Option.none), (Option.some (Value.ref 0))])
def hO252 (P : Params) : Obj := (Obj.mk (Value.type "tuple") (Option.none) (Data.seq #[] 0) #[])
def hO253 (P : Params) : Obj := (Obj.mk Value.none (Option.none) (Data.fields #[]) #[])
def hO254 (P : Params) : Obj := (Obj.mk (Value.type "tuple") (Option.none) (Data.seq #[(Value.str (Str.ofString "self") 406), (Value.str (Str.ofString "value") 407)] 0) #[])
def hO255 (P : Params) : Obj := (Obj.mk (Value.type "tuple") (Option.none) (Data.seq #[] 0) #[])
def hO256 (P : Params) : Obj := (Obj.mk Value.none (Option.none) (Data.func (FuncData.mk (Str.ofString "__init__") (Str.ofString "Kind.__init__") (hArg (hSub 7 1)) (FuncBody.stmts (hBody (hSub 7 1))) (hScope (hSub 7 1)) 0 [] Value.none Value.none Value.none Value.none (Option.none) Value.none Value.none 0)) #[])
def hO257 (P : Params) : Obj := (Obj.mk (Value.type "code") (Option.none) (Data.fields #[(Value.str (Str.ofString "__init__") 403), (Value.str (Str.ofString "Kind.__init__") 404), (Value.str (Str.ofString "/claim/cut.py") 405), (Value.int 75 0), (Value.int 2 0), (Value.int 0 0), (Value.int 0 0), (Value.int 3 0), (Value.ref 157), (Value.bool Bool.true), (Value.int 181 0), (Value.ref 158), Value.none, (Value.ref 159), (Value.ref 160), (Value.ref 161), (Value.int 408 0), (Value.int 75 0), (Value.str (Str.ofString "/claim/cut.py") 409)]) #[])
def hO258 (P : Params) : Obj := (Obj.mk (Value.type "function") (Option.none) (Data.func (FuncData.mk (Str.ofString "__init__") (Str.ofString "Kind.__init__") (hArg (hSub 7 1)) (FuncBody.stmts (hBody (hSub 7 1))) (hScope (hSub 7 1)) 3 [] Value.none Value.none Value.none (Value.str (Str.ofString "sect.core.hints") 214) (Option.none) (Value.ref 162) Value.none 0)) #[])
def hO259 (P : Params) : Obj := (Obj.mk (Value.type "tuple") (Option.none) (Data.seq #[] 0) #[])
def hO260 (P : Params) : Obj := (Obj.mk Value.none (Option.none) (Data.fields #[]) #[])
def hO261 (P : Params) : Obj := (Obj.mk (Value.type "tuple") (Option.none) (Data.seq #[(Value.str (Str.ofString "self") 414)] 0) #[])
def hO262 (P : Params) : Obj := (Obj.mk (Value.type "tuple") (Option.none) (Data.seq #[] 0) #[])
def hO263 (P : Params) : Obj := (Obj.mk Value.none (Option.none) (Data.func (FuncData.mk (Str.ofString "__bool__") (Str.ofString "Kind.__bool__") (hArg (hSub 7 2)) (FuncBody.stmts (hBody (hSub 7 2))) (hScope (hSub 7 2)) 0 [] Value.none Value.none Value.none Value.none (Option.none) Value.none Value.none 0)) #[])
def hO264 (P : Params) : Obj := (Obj.mk (Value.type "code") (Option.none) (Data.fields #[(Value.str (Str.ofString "__bool__") 411), (Value.str (Str.ofString "Kind.__bool__") 412), (Value.str (Str.ofString "/claim/cut.py") 413), (Value.int 78 0), (Value.int 1 0), (Value.int 0 0), (Value.int 0 0), (Value.int 3 0), (Value.ref 164), (Value.bool Bool.true), (Value.int 181 0), (Value.ref 165), Value.none, (Value.ref 166), (Value.ref 167), (Value.ref 168), (Value.int 415 0), (Value.int 78 0), (Value.str (Str.ofString "/claim/cut.py") 416)]) #[])
def hO265 (P : Params) : Obj := (Obj.mk (Value.type "function") (Option.none) (Data.func (FuncData.mk (Str.ofString "__bool__") (Str.ofString "Kind.__bool__") (hArg (hSub 7 2)) (FuncBody.stmts (hBody (hSub 7 2))) (hScope (hSub 7 2)) 3 [] Value.none Value.none Value.none (Value.str (Str.ofString "sect.core.hints") 214) (Option.none) (Value.ref 169) Value.none 0)) #[])
def hO266 (P : Params) : Obj := (Obj.mk (Value.type "tuple") (Option.none) (Data.seq #[(Value.str (Str.ofString "value") 418)] 0) #[])
def hO267 (P : Params) : Obj := (Obj.mk (Value.type "dict") (Option.none) (Data.dict #[(DictEntry.mk (PyData.keyHash P (Str.ofString "__module__")) (Value.str (Str.ofString "__module__") 395) (Value.str (Str.ofString "sect.core.hints") 214)), (DictEntry.mk (PyData.keyHash P (Str.ofString "__firstlineno__")) (Value.str (Str.ofString "__firstlineno__") 399) (Value.int 72 398)), (DictEntry.mk (PyData.keyHash P (Str.ofString "__doc__")) (Value.str (Str.ofString "__doc__") 401) (Value.str (Str.ofString "One of a few kinds, known by itself; it counts as false where its value is nought.") 400)), (DictEntry.mk (PyData.keyHash P (Str.ofString "__init__")) (Value.str (Str.ofString "__init__") 410) (Value.ref 163)), (DictEntry.mk (PyData.keyHash P (Str.ofString "__bool__")) (Value.str (Str.ofString "__bool__") 417) (Value.ref 170)), (DictEntry.mk (PyData.keyHash P (Str.ofString "__static_attributes__")) (Value.str (Str.ofString "__static_attributes__") 419) (Value.ref 171)), (DictEntry.mk (PyData.keyHash P (Str.ofString "__dict__")) (Value.str (Str.ofString "__dict__") 421) (Value.ref 174)), (DictEntry.mk (PyData.keyHash P (Str.ofString "__weakref__")) (Value.str (Str.ofString "__weakref__") 423) (Value.ref 175))] 3) #[])
def hO268 (P : Params) : Obj := (Obj.mk (Value.type "type") (Option.none) (Data.cls (ClassData.mk (Str.ofString "Kind") [(Value.type "object")] [(Value.ref 173), (Value.type "object")] 172 (Str.ofString "Kind") Bool.true [] [] Bool.false (Option.none) Bool.false)) #[(Option.none), (Option.none), (Option.some (Value.str (Str.ofString "Kind") 388)), (Option.some (Value.str (Str.ofString "Kind") 396)), (Option.some (Value.builtin "object.__new__")), (Option.some (Value.bool Bool.true))])
def hO269 (P : Params) : Obj := (Obj.mk (Value.type "getset_descriptor") (Option.none) (Data.fields #[(Value.str (Str.ofString "__dict__") 420), (Value.ref 173), (Value.builtin "function.__dict__"), (Value.builtin "function.__dict__#set")]) #[])
def hO270 (P : Params) : Obj := (Obj.mk (Value.type "getset_descriptor") (Option.none) (Data.fields #[(Value.str (Str.ofString "__weakref__") 422), (Value.ref 173), (Value.builtin "ExceptionGroup.__weakref__"), Value.none]) #[])
def hO271 (P : Params) : Obj := (Obj.mk (Value.type "super") (Option.none) (Data.fields #[(Value.ref 173), (Value.ref 173), (Value.ref 173)]) #[])
def hO272 (P : Params) : Obj := (Obj.mk (Value.type "builtin_function_or_method") (Option.none) (Data.fields #[(Value.builtin "object.__init_subclass__"), (Value.ref 173)]) #[])
def hO273 (P : Params) : Obj := (Obj.mk (Value.type "dict") (Option.none) (Data.dict #[(DictEntry.mk (PyData.keyHash P (Str.ofString "__name__")) (Value.str (Str.ofString "__name__") 165) (Value.str (Str.ofString "sect.core.hints") 214)), (DictEntry.mk (PyData.keyHash P (Str.ofString "__doc__")) (Value.str (Str.ofString "__doc__") 166) Value.none), (DictEntry.mk (PyData.keyHash P (Str.ofString "__package__")) (Value.str (Str.ofString "__package__") 167) Value.none), (DictEntry.mk (PyData.keyHash P (Str.ofString "__loader__")) (Value.str (Str.ofString "__loader__") 168) (Value.builtin "__main__.__loader__#opaque")), (DictEntry.mk (PyData.keyHash P (Str.ofString "__spec__")) (Value.str (Str.ofString "__spec__") 169) Value.none), (DictEntry.mk (PyData.keyHash P (Str.ofString "__annotations__")) (Value.str (Str.ofString "__annotations__") 170) (Value.ref 6)), (DictEntry.mk (PyData.keyHash P (Str.ofString "__builtins__")) (Value.str (Str.ofString "__builtins__") 171) (Value.ref 4)), (DictEntry.mk (PyData.keyHash P (Str.ofString "__file__")) (Value.str (Str.ofString "__file__") 173) (Value.str (Str.ofString "/claim/cut.py") 172)), (DictEntry.mk (PyData.keyHash P (Str.ofString "__cached__")) (Value.str (Str.ofString "__cached__") 174) Value.none), (DictEntry.mk (PyData.keyHash P (Str.ofString "_wall")) (Value.str (Str.ofString "_wall") 193) (Value.ref 21)), (DictEntry.mk (PyData.keyHash P (Str.ofString "arg_min")) (Value.str (Str.ofString "arg_min") 203) (Value.ref 28)), (DictEntry.mk (PyData.keyHash P (Str.ofString "to_contour_orientation")) (Value.str (Str.ofString "to_contour_orientation") 213) (Value.ref 35)), (DictEntry.mk (PyData.keyHash P (Str.ofString "_tuplegetter")) (Value.str (Str.ofString "_tuplegetter") 272) (Value.ref 74)), (DictEntry.mk (PyData.keyHash P (Str.ofString "Point")) (Value.str (Str.ofString "Point") 387) (Value.ref 146)), (DictEntry.mk (PyData.keyHash P (Str.ofString "Kind")) (Value.str (Str.ofString "Kind") 425) (Value.ref 173)), (DictEntry.mk (PyData.keyHash P (Str.ofString "Orientation")) (Value.str (Str.ofString "Orientation") 464) (Value.ref 196))] 16) #[])
def hO274 (P : Params) : Obj := (Obj.mk Value.none (Option.none) (Data.fields #[(Value.int 1 0), (Value.int 0 0), (Value.ref 20), (Value.int 5 0), (Value.int 0 0), (Value.ref 27), (Value.int 7 0), (Value.int 0 0), (Value.ref 34), (Value.int 12 0), (Value.int 0 0), (Value.ref 41), (Value.int 30 0), (Value.int 0 0), (Value.ref 85), (Value.int 72 0), (Value.int 0 0), (Value.ref 155), (Value.int 80 0), (Value.int 0 0), (Value.ref 183)]) #[])
def hO275 (P : Params) : Obj := (Obj.mk (Value.type "tuple") (Option.none) (Data.seq #[] 0) #[])
def hO276 (P : Params) : Obj := (Obj.mk (Value.type "builtin_function_or_method") (Option.none) (Data.fields #[(Value.builtin "type.__prepare__"), (Value.type "type")]) #[])
def hO277 (P : Params) : Obj := (Obj.mk (Value.type "dict") (Option.none) (Data.dict #[(DictEntry.mk (PyData.keyHash P (Str.ofString "__module__")) (Value.str (Str.ofString "__module__") 433) (Value.str (Str.ofString "sect.core.hints") 214)), (DictEntry.mk (PyData.keyHash P (Str.ofString "__qualname__")) (Value.str (Str.ofString "__qualname__") 435) (Value.str (Str.ofString "Orientation") 434)), (DictEntry.mk (PyData.keyHash P (Str.ofString "__firstlineno__")) (Value.str (Str.ofString "__firstlineno__") 437) (Value.int 80 436)), (DictEntry.mk (PyData.keyHash P (Str.ofString "CLOCKWISE")) (Value.str (Str.ofString "CLOCKWISE") 444) (Value.ref 186)), (DictEntry.mk (PyData.keyHash P (Str.ofString "COLLINEAR")) (Value.str (Str.ofString "COLLINEAR") 450) (Value.ref 189)), (DictEntry.mk (PyData.keyHash P (Str.ofString "COUNTERCLOCKWISE")) (Value.str (Str.ofString "COUNTERCLOCKWISE") 456) (Value.ref 192)), (DictEntry.mk (PyData.keyHash P (Str.ofString "__static_attributes__")) (Value.str (Str.ofString "__static_attributes__") 457) (Value.ref 194))] 7) #[])
def hO278 (P : Params) : Obj := (Obj.mk (Value.type "tuple") (Option.none) (Data.seq #[] 0) #[])
def hO279 (P : Params) : Obj := (Obj.mk Value.none (Option.none) (Data.fields #[]) #[])
def hO280 (P : Params) : Obj := (Obj.mk (Value.type "code") (Option.none) (Data.fields #[(Value.str (Str.ofString "Orientation") 428), (Value.str (Str.ofString "Orientation") 429), (Value.str (Str.ofString "/claim/cut.py") 430), (Value.int 80 0), (Value.int 0 0), (Value.int 0 0), (Value.int 0 0), (Value.int 0 0), (Value.ref 181), (Value.bool Bool.false), (Value.int 181 0), (Value.ref 182), Value.none, Value.none, Value.none, Value.none, (Value.int 431 0), (Value.int 80 0), (Value.str (Str.ofString "/claim/cut.py") 432)]) #[])
def hO281 (P : Params) : Obj := (Obj.mk (Value.type "frame") (Option.none) Data.plain #[(Option.some (Value.ref 183)), (Option.some (Value.ref 3)), (Option.some (Value.ref 180)), (Option.none), (Option.some (Value.str (Str.ofString "sect.core.hints") 214)), (Option.none), (Option.some (Value.ref 0))])
def hO282 (P : Params) : Obj := (Obj.mk (Value.type "dict") (Option.none) (Data.dict #[(DictEntry.mk (PyData.keyHash P (Str.ofString "value")) (Value.str (Str.ofString "value") 443) (Value.int (Neg.neg 1) 439))] 1) #[])
def hO283 (P : Params) : Obj := (Obj.mk (Value.ref 173) (Option.some 185) Data.plain #[])
def hO284 (P : Params) : Obj := (Obj.mk (Value.type "frame") (Option.none) (Data.dict #[(DictEntry.mk (PyData.keyHash P (Str.ofString "self")) (Value.str (Str.ofString "self") 440) (Value.ref 186)), (DictEntry.mk (PyData.keyHash P (Str.ofString "value")) (Value.str (Str.ofString "value") 441) (Value.int (Neg.neg 1) 439))] 2) #[])
def hO285 (P : Params) : Obj := (Obj.mk (Value.type "dict") (Option.none) (Data.dict #[(DictEntry.mk (PyData.keyHash P (Str.ofString "value")) (Value.str (Str.ofString "value") 449) (Value.int 0 445))] 1) #[])
def hO286 (P : Params) : Obj := (Obj.mk (Value.ref 173) (Option.some 188) Data.plain #[])
def hO287 (P : Params) : Obj := (Obj.mk (Value.type "frame") (Option.none) (Data.dict #[(DictEntry.mk (PyData.keyHash P (Str.ofString "self")) (Value.str (Str.ofString "self") 446) (Value.ref 189)), (DictEntry.mk (PyData.keyHash P (Str.ofString "value")) (Value.str (Str.ofString "value") 447) (Value.int 0 445))] 2) #[])
def hO288 (P : Params) : Obj := (Obj.mk (Value.type "dict") (Option.none) (Data.dict #[(DictEntry.mk (PyData.keyHash P (Str.ofString "value")) (Value.str (Str.ofString "value") 455) (Value.int 1 451))] 1) #[])
def hO289 (P : Params) : Obj := (Obj.mk (Value.ref 173) (Option.some 191) Data.plain #[])
def hO290 (P : Params) : Obj := (Obj.mk (Value.type "frame") (Option.none) (Data.dict #[(DictEntry.mk (PyData.keyHash P (Str.ofString "self")) (Value.str (Str.ofString "self") 452) (Value.ref 192)), (DictEntry.mk (PyData.keyHash P (Str.ofString "value")) (Value.str (Str.ofString "value") 453) (Value.int 1 451))] 2) #[])
def hO291 (P : Params) : Obj := (Obj.mk (Value.type "tuple") (Option.none) (Data.seq #[] 0) #[])
def hO292 (P : Params) : Obj := (Obj.mk (Value.type "dict") (Option.none) (Data.dict #[(DictEntry.mk (PyData.keyHash P (Str.ofString "__module__")) (Value.str (Str.ofString "__module__") 433) (Value.str (Str.ofString "sect.core.hints") 214)), (DictEntry.mk (PyData.keyHash P (Str.ofString "__firstlineno__")) (Value.str (Str.ofString "__firstlineno__") 437) (Value.int 80 436)), (DictEntry.mk (PyData.keyHash P (Str.ofString "CLOCKWISE")) (Value.str (Str.ofString "CLOCKWISE") 444) (Value.ref 186)), (DictEntry.mk (PyData.keyHash P (Str.ofString "COLLINEAR")) (Value.str (Str.ofString "COLLINEAR") 450) (Value.ref 189)), (DictEntry.mk (PyData.keyHash P (Str.ofString "COUNTERCLOCKWISE")) (Value.str (Str.ofString "COUNTERCLOCKWISE") 456) (Value.ref 192)), (DictEntry.mk (PyData.keyHash P (Str.ofString "__static_attributes__")) (Value.str (Str.ofString "__static_attributes__") 457) (Value.ref 194)), (DictEntry.mk (PyData.keyHash P (Str.ofString "__dict__")) (Value.str (Str.ofString "__dict__") 459) (Value.ref 197)), (DictEntry.mk (PyData.keyHash P (Str.ofString "__weakref__")) (Value.str (Str.ofString "__weakref__") 461) (Value.ref 198)), (DictEntry.mk (PyData.keyHash P (Str.ofString "__doc__")) (Value.str (Str.ofString "__doc__") 462) Value.none)] 4) #[])
def hO293 (P : Params) : Obj := (Obj.mk (Value.type "type") (Option.none) (Data.cls (ClassData.mk (Str.ofString "Orientation") [(Value.type "object")] [(Value.ref 196), (Value.type "object")] 195 (Str.ofString "Orientation") Bool.true [] [] Bool.false (Option.none) Bool.false)) #[(Option.none), (Option.none), (Option.some (Value.str (Str.ofString "Orientation") 426)), (Option.some (Value.str (Str.ofString "Orientation") 434)), (Option.some (Value.builtin "object.__new__")), (Option.some (Value.bool Bool.true))])
def hO294 (P : Params) : Obj := (Obj.mk (Value.type "getset_descriptor") (Option.none) (Data.fields #[(Value.str (Str.ofString "__dict__") 458), (Value.ref 196), (Value.builtin "function.__dict__"), (Value.builtin "function.__dict__#set")]) #[])
def hO295 (P : Params) : Obj := (Obj.mk (Value.type "getset_descriptor") (Option.none) (Data.fields #[(Value.str (Str.ofString "__weakref__") 460), (Value.ref 196), (Value.builtin "ExceptionGroup.__weakref__"), Value.none]) #[])
def hO296 (P : Params) : Obj := (Obj.mk (Value.type "super") (Option.none) (Data.fields #[(Value.ref 196), (Value.ref 196), (Value.ref 196)]) #[])
def hO297 (P : Params) : Obj := (Obj.mk (Value.type "builtin_function_or_method") (Option.none) (Data.fields #[(Value.builtin "object.__init_subclass__"), (Value.ref 196)]) #[])
def hO298 (P : Params) : Obj := (Obj.mk (Value.type "dict") (Option.none) (Data.dict #[(DictEntry.mk (PyData.keyHash P (Str.ofString "__name__")) (Value.str (Str.ofString "__name__") 165) (Value.str (Str.ofString "sect.core.hints") 214)), (DictEntry.mk (PyData.keyHash P (Str.ofString "__doc__")) (Value.str (Str.ofString "__doc__") 166) Value.none), (DictEntry.mk (PyData.keyHash P (Str.ofString "__package__")) (Value.str (Str.ofString "__package__") 167) Value.none), (DictEntry.mk (PyData.keyHash P (Str.ofString "__loader__")) (Value.str (Str.ofString "__loader__") 168) (Value.builtin "__main__.__loader__#opaque")), (DictEntry.mk (PyData.keyHash P (Str.ofString "__spec__")) (Value.str (Str.ofString "__spec__") 169) Value.none), (DictEntry.mk (PyData.keyHash P (Str.ofString "__annotations__")) (Value.str (Str.ofString "__annotations__") 170) (Value.ref 6)), (DictEntry.mk (PyData.keyHash P (Str.ofString "__builtins__")) (Value.str (Str.ofString "__builtins__") 171) (Value.ref 4)), (DictEntry.mk (PyData.keyHash P (Str.ofString "__file__")) (Value.str (Str.ofString "__file__") 173) (Value.str (Str.ofString "/claim/cut.py") 172)), (DictEntry.mk (PyData.keyHash P (Str.ofString "__cached__")) (Value.str (Str.ofString "__cached__") 174) Value.none), (DictEntry.mk (PyData.keyHash P (Str.ofString "_wall")) (Value.str (Str.ofString "_wall") 193) (Value.ref 21)), (DictEntry.mk (PyData.keyHash P (Str.ofString "arg_min")) (Value.str (Str.ofString "arg_min") 203) (Value.ref 28)), (DictEntry.mk (PyData.keyHash P (Str.ofString "to_contour_orientation")) (Value.str (Str.ofString "to_contour_orientation") 213) (Value.ref 35)), (DictEntry.mk (PyData.keyHash P (Str.ofString "_tuplegetter")) (Value.str (Str.ofString "_tuplegetter") 272) (Value.ref 74)), (DictEntry.mk (PyData.keyHash P (Str.ofString "Point")) (Value.str (Str.ofString "Point") 387) (Value.ref 146)), (DictEntry.mk (PyData.keyHash P (Str.ofString "Kind")) (Value.str (Str.ofString "Kind") 425) (Value.ref 173)), (DictEntry.mk (PyData.keyHash P (Str.ofString "Orientation")) (Value.str (Str.ofString "Orientation") 464) (Value.ref 196)), (DictEntry.mk (PyData.keyHash P (Str.ofString "Contour")) (Value.str (Str.ofString "Contour") 493) (Value.ref 217))] 17) #[])
def hO299 (P : Params) : Obj := (Obj.mk Value.none (Option.none) (Data.fields #[(Value.int 1 0), (Value.int 0 0), (Value.ref 20), (Value.int 5 0), (Value.int 0 0), (Value.ref 27), (Value.int 7 0), (Value.int 0 0), (Value.ref 34), (Value.int 12 0), (Value.int 0 0), (Value.ref 41), (Value.int 30 0), (Value.int 0 0), (Value.ref 85), (Value.int 72 0), (Value.int 0 0), (Value.ref 155), (Value.int 80 0), (Value.int 0 0), (Value.ref 183), (Value.int 84 0), (Value.int 0 0), (Value.ref 206)]) #[])
def hO300 (P : Params) : Obj := (Obj.mk (Value.type "tuple") (Option.none) (Data.seq #[] 0) #[])
def hO301 (P : Params) : Obj := (Obj.mk (Value.type "builtin_function_or_method") (Option.none) (Data.fields #[(Value.builtin "type.__prepare__"), (Value.type "type")]) #[])
def hO302 (P : Params) : Obj := (Obj.mk (Value.type "dict") (Option.none) (Data.dict #[(DictEntry.mk (PyData.keyHash P (Str.ofString "__module__")) (Value.str (Str.ofString "__module__") 472) (Value.str (Str.ofString "sect.core.hints") 214)), (DictEntry.mk (PyData.keyHash P (Str.ofString "__qualname__")) (Value.str (Str.ofString "__qualname__") 474) (Value.str (Str.ofString "Contour") 473)), (DictEntry.mk (PyData.keyHash P (Str.ofString "__firstlineno__")) (Value.str (Str.ofString "__firstlineno__") 476) (Value.int 84 475)), (DictEntry.mk (PyData.keyHash P (Str.ofString "__init__")) (Value.str (Str.ofString "__init__") 484) (Value.ref 214)), (DictEntry.mk (PyData.keyHash P (Str.ofString "__static_attributes__")) (Value.str (Str.ofString "__static_attributes__") 486) (Value.ref 215))] 5) #[])
def hO303 (P : Params) : Obj := (Obj.mk (Value.type "tuple") (Option.none) (Data.seq #[] 0) #[])
def hO304 (P : Params) : Obj := (Obj.mk Value.none (Option.none) (Data.fields #[(Value.int 86 0), (Value.int 4 0), (Value.ref 213)]) #[])
def hO305 (P : Params) : Obj := (Obj.mk (Value.type "code") (Option.none) (Data.fields #[(Value.str (Str.ofString "Contour") 467), (Value.str (Str.ofString "Contour") 468), (Value.str (Str.ofString "/claim/cut.py") 469), (Value.int 84 0), (Value.int 0 0), (Value.int 0 0), (Value.int 0 0), (Value.int 0 0), (Value.ref 204), (Value.bool Bool.false), (Value.int 181 0), (Value.ref 205), Value.none, Value.none, Value.none, Value.none, (Value.int 470 0), (Value.int 84 0), (Value.str (Str.ofString "/claim/cut.py") 471)]) #[])
def hO306 (P : Params) : Obj := (Obj.mk (Value.type "frame") (Option.none) Data.plain #[(Option.some (Value.ref 206)), (Option.some (Value.ref 3)), (Option.some (Value.ref 203)), (Option.none), (Option.some (Value.str (Str.ofString "sect.core.hints") 214)), (Option.none), (Option.some (Value.ref 0))])
def hO307 (P : Params) : Obj := (Obj.mk (Value.type "tuple") (Option.none) (Data.seq #[] 0) #[])
def hO308 (P : Params) : Obj := (Obj.mk Value.none (Option.none) (Data.fields #[]) #[])
def hO309 (P : Params) : Obj := (Obj.mk (Value.type "tuple") (Option.none) (Data.seq #[(Value.str (Str.ofString "self") 480), (Value.str (Str.ofString "vertices") 481)] 0) #[])
def hO310 (P : Params) : Obj := (Obj.mk (Value.type "tuple") (Option.none) (Data.seq #[] 0) #[])
def hO311 (P : Params) : Obj := (Obj.mk Value.none (Option.none) (Data.func (FuncData.mk (Str.ofString "__init__") (Str.ofString "Contour.__init__") (hArg (hSub 9 0)) (FuncBody.stmts (hBody (hSub 9 0))) (hScope (hSub 9 0)) 0 [] Value.none Value.none Value.none Value.none (Option.none) Value.none Value.none 0)) #[])
def hO312 (P : Params) : Obj := (Obj.mk (Value.type "code") (Option.none) (Data.fields #[(Value.str (Str.ofString "__init__") 477), (Value.str (Str.ofString "Contour.__init__") 478), (Value.str (Str.ofString "/claim/cut.py") 479), (Value.int 86 0), (Value.int 2 0), (Value.int 0 0), (Value.int 0 0), (Value.int 3 0), (Value.ref 208), (Value.bool Bool.true), (Value.int 181 0), (Value.ref 209), Value.none, (Value.ref 210), (Value.ref 211), (Value.ref 212), (Value.int 482 0), (Value.int 86 0), (Value.str (Str.ofString "/claim/cut.py") 483)]) #[])
def hO313 (P : Params) : Obj := (Obj.mk (Value.type "function") (Option.none) (Data.func (FuncData.mk (Str.ofString "__init__") (Str.ofString "Contour.__init__") (hArg (hSub 9 0)) (FuncBody.stmts (hBody (hSub 9 0))) (hScope (hSub 9 0)) 3 [] Value.none Value.none Value.none (Value.str (Str.ofString "sect.core.hints") 214) (Option.none) (Value.ref 213) Value.none 0)) #[])
def hO314 (P : Params) : Obj := (Obj.mk (Value.type "tuple") (Option.none) (Data.seq #[(Value.str (Str.ofString "vertices") 485)] 0) #[])
def hO315 (P : Params) : Obj := (Obj.mk (Value.type "dict") (Option.none) (Data.dict #[(DictEntry.mk (PyData.keyHash P (Str.ofString "__module__")) (Value.str (Str.ofString "__module__") 472) (Value.str (Str.ofString "sect.core.hints") 214)), (DictEntry.mk (PyData.keyHash P (Str.ofString "__firstlineno__")) (Value.str (Str.ofString "__firstlineno__") 476) (Value.int 84 475)), (DictEntry.mk (PyData.keyHash P (Str.ofString "__init__")) (Value.str (Str.ofString "__init__") 484) (Value.ref 214)), (DictEntry.mk (PyData.keyHash P (Str.ofString "__static_attributes__")) (Value.str (Str.ofString "__static_attributes__") 486) (Value.ref 215)), (DictEntry.mk (PyData.keyHash P (Str.ofString "__dict__")) (Value.str (Str.ofString "__dict__") 488) (Value.ref 218)), (DictEntry.mk (PyData.keyHash P (Str.ofString "__weakref__")) (Value.str (Str.ofString "__weakref__") 490) (Value.ref 219)), (DictEntry.mk (PyData.keyHash P (Str.ofString "__doc__")) (Value.str (Str.ofString "__doc__") 491) Value.none)] 4) #[])
def hO316 (P : Params) : Obj := (Obj.mk (Value.type "type") (Option.none) (Data.cls (ClassData.mk (Str.ofString "Contour") [(Value.type "object")] [(Value.ref 217), (Value.type "object")] 216 (Str.ofString "Contour") Bool.true [] [] Bool.false (Option.none) Bool.false)) #[(Option.none), (Option.none), (Option.some (Value.str (Str.ofString "Contour") 465)), (Option.some (Value.str (Str.ofString "Contour") 473)), (Option.some (Value.builtin "object.__new__")), (Option.some (Value.bool Bool.true))])
def hO317 (P : Params) : Obj := (Obj.mk (Value.type "getset_descriptor") (Option.none) (Data.fields #[(Value.str (Str.ofString "__dict__") 487), (Value.ref 217), (Value.builtin "function.__dict__"), (Value.builtin "function.__dict__#set")]) #[])
def hO318 (P : Params) : Obj := (Obj.mk (Value.type "getset_descriptor") (Option.none) (Data.fields #[(Value.str (Str.ofString "__weakref__") 489), (Value.ref 217), (Value.builtin "ExceptionGroup.__weakref__"), Value.none]) #[])
def hO319 (P : Params) : Obj := (Obj.mk (Value.type "super") (Option.none) (Data.fields #[(Value.ref 217), (Value.ref 217), (Value.ref 217)]) #[])
def hO320 (P : Params) : Obj := (Obj.mk (Value.type "builtin_function_or_method") (Option.none) (Data.fields #[(Value.builtin "object.__init_subclass__"), (Value.ref 217)]) #[])
def hO321 (P : Params) : Obj := (Obj.mk (Value.type "dict") (Option.none) (Data.dict #[(DictEntry.mk (PyData.keyHash P (Str.ofString "__name__")) (Value.str (Str.ofString "__name__") 165) (Value.str (Str.ofString "sect.core.hints") 214)), (DictEntry.mk (PyData.keyHash P (Str.ofString "__doc__")) (Value.str (Str.ofString "__doc__") 166) Value.none), (DictEntry.mk (PyData.keyHash P (Str.ofString "__package__")) (Value.str (Str.ofString "__package__") 167) Value.none), (DictEntry.mk (PyData.keyHash P (Str.ofString "__loader__")) (Value.str (Str.ofString "__loader__") 168) (Value.builtin "__main__.__loader__#opaque")), (DictEntry.mk (PyData.keyHash P (Str.ofString "__spec__")) (Value.str (Str.ofString "__spec__") 169) Value.none), (DictEntry.mk (PyData.keyHash P (Str.ofString "__annotations__")) (Value.str (Str.ofString "__annotations__") 170) (Value.ref 6)), (DictEntry.mk (PyData.keyHash P (Str.ofString "__builtins__")) (Value.str (Str.ofString "__builtins__") 171) (Value.ref 4)), (DictEntry.mk (PyData.keyHash P (Str.ofString "__file__")) (Value.str (Str.ofString "__file__") 173) (Value.str (Str.ofString "/claim/cut.py") 172)), (DictEntry.mk (PyData.keyHash P (Str.ofString "__cached__")) (Value.str (Str.ofString "__cached__") 174) Value.none), (DictEntry.mk (PyData.keyHash P (Str.ofString "_wall")) (Value.str (Str.ofString "_wall") 193) (Value.ref 21)), (DictEntry.mk (PyData.keyHash P (Str.ofString "arg_min")) (Value.str (Str.ofString "arg_min") 203) (Value.ref 28)), (DictEntry.mk (PyData.keyHash P (Str.ofString "to_contour_orientation")) (Value.str (Str.ofString "to_contour_orientation") 213) (Value.ref 35)), (DictEntry.mk (PyData.keyHash P (Str.ofString "_tuplegetter")) (Value.str (Str.ofString "_tuplegetter") 272) (Value.ref 74)), (DictEntry.mk (PyData.keyHash P (Str.ofString "Point")) (Value.str (Str.ofString "Point") 387) (Value.ref 146)), (DictEntry.mk (PyData.keyHash P (Str.ofString "Kind")) (Value.str (Str.ofString "Kind") 425) (Value.ref 173)), (DictEntry.mk (PyData.keyHash P (Str.ofString "Orientation")) (Value.str (Str.ofString "Orientation") 464) (Value.ref 196)), (DictEntry.mk (PyData.keyHash P (Str.ofString "Contour")) (Value.str (Str.ofString "Contour") 493) (Value.ref 217)), (DictEntry.mk (PyData.keyHash P (Str.ofString "Context")) (Value.str (Str.ofString "Context") 571) (Value.ref 273))] 18) #[])
def hO322 (P : Params) : Obj := (Obj.mk Value.none (Option.none) (Data.fields #[(Value.int 1 0), (Value.int 0 0), (Value.ref 20), (Value.int 5 0), (Value.int 0 0), (Value.ref 27), (Value.int 7 0), (Value.int 0 0), (Value.ref 34), (Value.int 12 0), (Value.int 0 0), (Value.ref 41), (Value.int 30 0), (Value.int 0 0), (Value.ref 85), (Value.int 72 0), (Value.int 0 0), (Value.ref 155), (Value.int 80 0), (Value.int 0 0), (Value.ref 183), (Value.int 84 0), (Value.int 0 0), (Value.ref 206), (Value.int 88 0), (Value.int 0 0), (Value.ref 227)]) #[])
def hO323 (P : Params) : Obj := (Obj.mk (Value.type "tuple") (Option.none) (Data.seq #[] 0) #[])
def hO324 (P : Params) : Obj := (Obj.mk (Value.type "builtin_function_or_method") (Option.none) (Data.fields #[(Value.builtin "type.__prepare__"), (Value.type "type")]) #[])
def hO325 (P : Params) : Obj := (Obj.mk (Value.type "dict") (Option.none) (Data.dict #[(DictEntry.mk (PyData.keyHash P (Str.ofString "__module__")) (Value.str (Str.ofString "__module__") 501) (Value.str (Str.ofString "sect.core.hints") 214)), (DictEntry.mk (PyData.keyHash P (Str.ofString "__qualname__")) (Value.str (Str.ofString "__qualname__") 503) (Value.str (Str.ofString "Context") 502)), (DictEntry.mk (PyData.keyHash P (Str.ofString "__firstlineno__")) (Value.str (Str.ofString "__firstlineno__") 505) (Value.int 88 504)), (DictEntry.mk (PyData.keyHash P (Str.ofString "__doc__")) (Value.str (Str.ofString "__doc__") 507) (Value.str (Str.ofString "The geometric context: whole numbers as coordinates, nothing rounded.") 506)), (DictEntry.mk (PyData.keyHash P (Str.ofString "point_cls")) (Value.str (Str.ofString "point_cls") 517) (Value.ref 235)), (DictEntry.mk (PyData.keyHash P (Str.ofString "contour_cls")) (Value.str (Str.ofString "contour_cls") 525) (Value.ref 242)), (DictEntry.mk (PyData.keyHash P (Str.ofString "contour_box")) (Value.str (Str.ofString "contour_box") 533) (Value.ref 249)), (DictEntry.mk (PyData.keyHash P (Str.ofString "segments_box")) (Value.str (Str.ofString "segments_box") 541) (Value.ref 256)), (DictEntry.mk (PyData.keyHash P (Str.ofString "angle_orientation")) (Value.str (Str.ofString "angle_orientation") 553) (Value.ref 263)), (DictEntry.mk (PyData.keyHash P (Str.ofString "locate_point_in_point_point_point_circle")) (Value.str (Str.ofString "locate_point_in_point_point_point_circle") 564) (Value.ref 270)), (DictEntry.mk (PyData.keyHash P (Str.ofString "__static_attributes__")) (Value.str (Str.ofString "__static_attributes__") 565) (Value.ref 271))] 11) #[])
def hO326 (P : Params) : Obj := (Obj.mk (Value.type "tuple") (Option.none) (Data.seq #[] 0) #[])
def hO327 (P : Params) : Obj := (Obj.mk Value.none (Option.none) (Data.fields #[(Value.int 91 0), (Value.int 4 0), (Value.ref 234), (Value.int 94 0), (Value.int 4 0), (Value.ref 241), (Value.int 97 0), (Value.int 4 0), (Value.ref 248), (Value.int 100 0), (Value.int 4 0), (Value.ref 255), (Value.int 103 0), (Value.int 4 0), (Value.ref 262), (Value.int 112 0), (Value.int 4 0), (Value.ref 269)]) #[])
def hO328 (P : Params) : Obj := (Obj.mk (Value.type "code") (Option.none) (Data.fields #[(Value.str (Str.ofString "Context") 496), (Value.str (Str.ofString "Context") 497), (Value.str (Str.ofString "/claim/cut.py") 498), (Value.int 88 0), (Value.int 0 0), (Value.int 0 0), (Value.int 0 0), (Value.int 0 0), (Value.ref 225), (Value.bool Bool.false), (Value.int 181 0), (Value.ref 226), Value.none, Value.none, Value.none, Value.none, (Value.int 499 0), (Value.int 88 0), (Value.str (Str.ofString "/claim/cut.py") 500)]) #[])
def hO329 (P : Params) : Obj := (Obj.mk (Value.type "frame") (Option.none) Data.plain #[(Option.some (Value.ref 227)), (Option.some (Value.ref 3)), (Option.some (Value.ref 224)), (Option.none), (Option.some (Value.str (Str.ofString "sect.core.hints") 214)), (Option.none), (Option.some (Value.ref 0))])
def hO330 (P : Params) : Obj := (Obj.mk (Value.type "tuple") (Option.none) (Data.seq #[] 0) #[])
def hO331 (P : Params) : Obj := (Obj.mk Value.none (Option.none) (Data.fields #[]) #[])
def hO332 (P : Params) : Obj := (Obj.mk (Value.type "tuple") (Option.none) (Data.seq #[(Value.str (Str.ofString "self") 512), (Value.str (Str.ofString "x") 513), (Value.str (Str.ofString "y") 514)] 0) #[])
def hO333 (P : Params) : Obj := (Obj.mk (Value.type "tuple") (Option.none) (Data.seq #[] 0) #[])
def hO334 (P : Params) : Obj := (Obj.mk Value.none (Option.none) (Data.func (FuncData.mk (Str.ofString "point_cls") (Str.ofString "Context.point_cls") (hArg (hSub 10 1)) (FuncBody.stmts (hBody (hSub 10 1))) (hScope (hSub 10 1)) 0 [] Value.none Value.none Value.none Value.none (Option.none) Value.none Value.none 0)) #[])
def hO335 (P : Params) : Obj := (Obj.mk (Value.type "code") (Option.none) (Data.fields #[(Value.str (Str.ofString "point_cls") 509), (Value.str (Str.ofString "Context.point_cls") 510), (Value.str (Str.ofString "/claim/cut.py") 511), (Value.int 91 0), (Value.int 3 0), (Value.int 0 0), (Value.int 0 0), (Value.int 3 0), (Value.ref 229), (Value.bool Bool.true), (Value.int 181 0), (Value.ref 230), Value.none, (Value.ref 231), (Value.ref 232), (Value.ref 233), (Value.int 515 0), (Value.int 91 0), (Value.str (Str.ofString "/claim/cut.py") 516)]) #[])
def hO336 (P : Params) : Obj := (Obj.mk (Value.type "function") (Option.none) (Data.func (FuncData.mk (Str.ofString "point_cls") (Str.ofString "Context.point_cls") (hArg (hSub 10 1)) (FuncBody.stmts (hBody (hSub 10 1))) (hScope (hSub 10 1)) 3 [] Value.none Value.none Value.none (Value.str (Str.ofString "sect.core.hints") 214) (Option.none) (Value.ref 234) Value.none 0)) #[])
def hO337 (P : Params) : Obj := (Obj.mk (Value.type "tuple") (Option.none) (Data.seq #[] 0) #[])
def hO338 (P : Params) : Obj := (Obj.mk Value.none (Option.none) (Data.fields #[]) #[])
def hO339 (P : Params) : Obj := (Obj.mk (Value.type "tuple") (Option.none) (Data.seq #[(Value.str (Str.ofString "self") 521), (Value.str (Str.ofString "vertices") 522)] 0) #[])
def hO340 (P : Params) : Obj := (Obj.mk (Value.type "tuple") (Option.none) (Data.seq #[] 0) #[])
def hO341 (P : Params) : Obj := (Obj.mk Value.none (Option.none) (Data.func (FuncData.mk (Str.ofString "contour_cls") (Str.ofString "Context.contour_cls") (hArg (hSub 10 2)) (FuncBody.stmts (hBody (hSub 10 2))) (hScope (hSub 10 2)) 0 [] Value.none Value.none Value.none Value.none (Option.none) Value.none Value.none 0)) #[])
def hO342 (P : Params) : Obj := (Obj.mk (Value.type "code") (Option.none) (Data.fields #[(Value.str (Str.ofString "contour_cls") 518), (Value.str (Str.ofString "Context.contour_cls") 519), (Value.str (Str.ofString "/claim/cut.py") 520), (Value.int 94 0), (Value.int 2 0), (Value.int 0 0), (Value.int 0 0), (Value.int 3 0), (Value.ref 236), (Value.bool Bool.true), (Value.int 181 0), (Value.ref 237), Value.none, (Value.ref 238), (Value.ref 239), (Value.ref 240), (Value.int 523 0), (Value.int 94 0), (Value.str (Str.ofString "/claim/cut.py") 524)]) #[])
def hO343 (P : Params) : Obj := (Obj.mk (Value.type "function") (Option.none) (Data.func (FuncData.mk (Str.ofString "contour_cls") (Str.ofString "Context.contour_cls") (hArg (hSub 10 2)) (FuncBody.stmts (hBody (hSub 10 2))) (hScope (hSub 10 2)) 3 [] Value.none Value.none Value.none (Value.str (Str.ofString "sect.core.hints") 214) (Option.none) (Value.ref 241) Value.none 0)) #[])
def hO344 (P : Params) : Obj := (Obj.mk (Value.type "tuple") (Option.none) (Data.seq #[] 0) #[])
def hO345 (P : Params) : Obj := (Obj.mk Value.none (Option.none) (Data.fields #[]) #[])
def hO346 (P : Params) : Obj := (Obj.mk (Value.type "tuple") (Option.none) (Data.seq #[(Value.str (Str.ofString "self") 529), (Value.str (Str.ofString "contour") 530)] 0) #[])
def hO347 (P : Params) : Obj := (Obj.mk (Value.type "tuple") (Option.none) (Data.seq #[] 0) #[])
def hO348 (P : Params) : Obj := (Obj.mk Value.none (Option.none) (Data.func (FuncData.mk (Str.ofString "contour_box") (Str.ofString "Context.contour_box") (hArg (hSub 10 3)) (FuncBody.stmts (hBody (hSub 10 3))) (hScope (hSub 10 3)) 0 [] Value.none Value.none Value.none Value.none (Option.none) Value.none Value.none 0)) #[])
def hO349 (P : Params) : Obj := (Obj.mk (Value.type "code") (Option.none) (Data.fields #[(Value.str (Str.ofString "contour_box") 526), (Value.str (Str.ofString "Context.contour_box") 527), (Value.str (Str.ofString "/claim/cut.py") 528), (Value.int 97 0), (Value.int 2 0), (Value.int 0 0), (Value.int 0 0), (Value.int 3 0), (Value.ref 243), (Value.bool Bool.true), (Value.int 181 0), (Value.ref 244), Value.none, (Value.ref 245), (Value.ref 246), (Value.ref 247), (Value.int 531 0), (Value.int 97 0), (Value.str (Str.ofString "/claim/cut.py") 532)]) #[])
def hO350 (P : Params) : Obj := (Obj.mk (Value.type "function") (Option.none) (Data.func (FuncData.mk (Str.ofString "contour_box") (Str.ofString "Context.contour_box") (hArg (hSub 10 3)) (FuncBody.stmts (hBody (hSub 10 3))) (hScope (hSub 10 3)) 3 [] Value.none Value.none Value.none (Value.str (Str.ofString "sect.core.hints") 214) (Option.none) (Value.ref 248) Value.none 0)) #[])
def hO351 (P : Params) : Obj := (Obj.mk (Value.type "tuple") (Option.none) (Data.seq #[] 0) #[])
def hO352 (P : Params) : Obj := (Obj.mk Value.none (Option.none) (Data.fields #[]) #[])
def hO353 (P : Params) : Obj := (Obj.mk (Value.type "tuple") (Option.none) (Data.seq #[(Value.str (Str.ofString "self") 537), (Value.str (Str.ofString "segments") 538)] 0) #[])
def hO354 (P : Params) : Obj := (Obj.mk (Value.type "tuple") (Option.none) (Data.seq #[] 0) #[])
def hO355 (P : Params) : Obj := (Obj.mk Value.none (Option.none) (Data.func (FuncData.mk (Str.ofString "segments_box") (Str.ofString "Context.segments_box") (hArg (hSub 10 4)) (FuncBody.stmts (hBody (hSub 10 4))) (hScope (hSub 10 4)) 0 [] Value.none Value.none Value.none Value.none (Option.none) Value.none Value.none 0)) #[])
def hO356 (P : Params) : Obj := (Obj.mk (Value.type "code") (Option.none) (Data.fields #[(Value.str (Str.ofString "segments_box") 534), (Value.str (Str.ofString "Context.segments_box") 535), (Value.str (Str.ofString "/claim/cut.py") 536), (Value.int 100 0), (Value.int 2 0), (Value.int 0 0), (Value.int 0 0), (Value.int 3 0), (Value.ref 250), (Value.bool Bool.true), (Value.int 181 0), (Value.ref 251), Value.none, (Value.ref 252), (Value.ref 253), (Value.ref 254), (Value.int 539 0), (Value.int 100 0), (Value.str (Str.ofString "/claim/cut.py") 540)]) #[])
def hO357 (P : Params) : Obj := (Obj.mk (Value.type "function") (Option.none) (Data.func (FuncData.mk (Str.ofString "segments_box") (Str.ofString "Context.segments_box") (hArg (hSub 10 4)) (FuncBody.stmts (hBody (hSub 10 4))) (hScope (hSub 10 4)) 3 [] Value.none Value.none Value.none (Value.str (Str.ofString "sect.core.hints") 214) (Option.none) (Value.ref 255) Value.none 0)) #[])
def hO358 (P : Params) : Obj := (Obj.mk (Value.type "tuple") (Option.none) (Data.seq #[] 0) #[])
def hO359 (P : Params) : Obj := (Obj.mk Value.none (Option.none) (Data.fields #[]) #[])
def hO360 (P : Params) : Obj := (Obj.mk (Value.type "tuple") (Option.none) (Data.seq #[(Value.str (Str.ofString "self") 545), (Value.str (Str.ofString "vertex") 546), (Value.str (Str.ofString "first") 547), (Value.str (Str.ofString "second") 548), (Value.str (Str.ofString "product") 549)] 0) #[])
def hO361 (P : Params) : Obj := (Obj.mk (Value.type "tuple") (Option.none) (Data.seq #[] 0) #[])
def hO362 (P : Params) : Obj := (Obj.mk Value.none (Option.none) (Data.func (FuncData.mk (Str.ofString "angle_orientation") (Str.ofString "Context.angle_orientation") (hArg (hSub 10 5)) (FuncBody.stmts (hBody (hSub 10 5))) (hScope (hSub 10 5)) 0 [] Value.none Value.none Value.none Value.none (Option.none) Value.none Value.none 0)) #[])
def hO363 (P : Params) : Obj := (Obj.mk (Value.type "code") (Option.none) (Data.fields #[(Value.str (Str.ofString "angle_orientation") 542), (Value.str (Str.ofString "Context.angle_orientation") 543), (Value.str (Str.ofString "/claim/cut.py") 544), (Value.int 103 0), (Value.int 4 0), (Value.int 0 0), (Value.int 0 0), (Value.int 3 0), (Value.ref 257), (Value.bool Bool.true), (Value.int 181 0), (Value.ref 258), Value.none, (Value.ref 259), (Value.ref 260), (Value.ref 261), (Value.int 550 0), (Value.int 103 0), (Value.str (Str.ofString "/claim/cut.py") 551)]) #[])
def hO364 (P : Params) : Obj := (Obj.mk (Value.type "function") (Option.none) (Data.func (FuncData.mk (Str.ofString "angle_orientation") (Str.ofString "Context.angle_orientation") (hArg (hSub 10 5)) (FuncBody.stmts (hBody (hSub 10 5))) (hScope (hSub 10 5)) 3 [] Value.none Value.none (Value.str (Str.ofString "On which side of the ray from the vertex through the first point the second one lies.") 552) (Value.str (Str.ofString "sect.core.hints") 214) (Option.none) (Value.ref 262) Value.none 0)) #[])
def hO365 (P : Params) : Obj := (Obj.mk (Value.type "tuple") (Option.none) (Data.seq #[] 0) #[])
def hO366 (P : Params) : Obj := (Obj.mk Value.none (Option.none) (Data.fields #[]) #[])
def hO367 (P : Params) : Obj := (Obj.mk (Value.type "tuple") (Option.none) (Data.seq #[(Value.str (Str.ofString "self") 557), (Value.str (Str.ofString "point") 558), (Value.str (Str.ofString "first") 559), (Value.str (Str.ofString "second") 560), (Value.str (Str.ofString "third") 561)] 0) #[])
def hO368 (P : Params) : Obj := (Obj.mk (Value.type "tuple") (Option.none) (Data.seq #[] 0) #[])
def hO369 (P : Params) : Obj := (Obj.mk Value.none (Option.none) (Data.func (FuncData.mk (Str.ofString "locate_point_in_point_point_point_circle") (Str.ofString "Context.locate_point_in_point_point_point_circle") (hArg (hSub 10 6)) (FuncBody.stmts (hBody (hSub 10 6))) (hScope (hSub 10 6)) 0 [] Value.none Value.none Value.none Value.none (Option.none) Value.none Value.none 0)) #[])
def hO370 (P : Params) : Obj := (Obj.mk (Value.type "code") (Option.none) (Data.fields #[(Value.str (Str.ofString "locate_point_in_point_point_point_circle") 554), (Value.str (Str.ofString "Context.locate_point_in_point_point_point_circle") 555), (Value.str (Str.ofString "/claim/cut.py") 556), (Value.int 112 0), (Value.int 5 0), (Value.int 0 0), (Value.int 0 0), (Value.int 3 0), (Value.ref 264), (Value.bool Bool.true), (Value.int 181 0), (Value.ref 265), Value.none, (Value.ref 266), (Value.ref 267), (Value.ref 268), (Value.int 562 0), (Value.int 112 0), (Value.str (Str.ofString "/claim/cut.py") 563)]) #[])
def hO371 (P : Params) : Obj := (Obj.mk (Value.type "function") (Option.none) (Data.func (FuncData.mk (Str.ofString "locate_point_in_point_point_point_circle") (Str.ofString "Context.locate_point_in_point_point_point_circle") (hArg (hSub 10 6)) (FuncBody.stmts (hBody (hSub 10 6))) (hScope (hSub 10 6)) 3 [] Value.none Value.none Value.none (Value.str (Str.ofString "sect.core.hints") 214) (Option.none) (Value.ref 269) Value.none 0)) #[])
def hO372 (P : Params) : Obj := (Obj.mk (Value.type "tuple") (Option.none) (Data.seq #[] 0) #[])
def hO373 (P : Params) : Obj := (Obj.mk (Value.type "dict") (Option.none) (Data.dict #[(DictEntry.mk (PyData.keyHash P (Str.ofString "__module__")) (Value.str (Str.ofString "__module__") 501) (Value.str (Str.ofString "sect.core.hints") 214)), (DictEntry.mk (PyData.keyHash P (Str.ofString "__firstlineno__")) (Value.str (Str.ofString "__firstlineno__") 505) (Value.int 88 504)), (DictEntry.mk (PyData.keyHash P (Str.ofString "__doc__")) (Value.str (Str.ofString "__doc__") 507) (Value.str (Str.ofString "The geometric context: whole numbers as coordinates, nothing rounded.") 506)), (DictEntry.mk (PyData.keyHash P (Str.ofString "point_cls")) (Value.str (Str.ofString "point_cls") 517) (Value.ref 235)), (DictEntry.mk (PyData.keyHash P (Str.ofString "contour_cls")) (Value.str (Str.ofString "contour_cls") 525) (Value.ref 242)), (DictEntry.mk (PyData.keyHash P (Str.ofString "contour_box")) (Value.str (Str.ofString "contour_box") 533) (Value.ref 249)), (DictEntry.mk (PyData.keyHash P (Str.ofString "segments_box")) (Value.str (Str.ofString "segments_box") 541) (Value.ref 256)), (DictEntry.mk (PyData.keyHash P (Str.ofString "angle_orientation")) (Value.str (Str.ofString "angle_orientation") 553) (Value.ref 263)), (DictEntry.mk (PyData.keyHash P (Str.ofString "locate_point_in_point_point_point_circle")) (Value.str (Str.ofString "locate_point_in_point_point_point_circle") 564) (Value.ref 270)), (DictEntry.mk (PyData.keyHash P (Str.ofString "__static_attributes__")) (Value.str (Str.ofString "__static_attributes__") 565) (Value.ref 271)), (DictEntry.mk (PyData.keyHash P (Str.ofString "__dict__")) (Value.str (Str.ofString "__dict__") 567) (Value.ref 274)), (DictEntry.mk (PyData.keyHash P (Str.ofString "__weakref__")) (Value.str (Str.ofString "__weakref__") 569) (Value.ref 275))] 3) #[])
def hO374 (P : Params) : Obj := (Obj.mk (Value.type "type") (Option.none) (Data.cls (ClassData.mk (Str.ofString "Context") [(Value.type "object")] [(Value.ref 273), (Value.type "object")] 272 (Str.ofString "Context") Bool.true [] [] Bool.false (Option.none) Bool.false)) #[(Option.none), (Option.none), (Option.some (Value.str (Str.ofString "Context") 494)), (Option.some (Value.str (Str.ofString "Context") 502)), (Option.some (Value.builtin "object.__new__")), (Option.some (Value.bool Bool.true))])
def hO375 (P : Params) : Obj := (Obj.mk (Value.type "getset_descriptor") (Option.none) (Data.fields #[(Value.str (Str.ofString "__dict__") 566), (Value.ref 273), (Value.builtin "function.__dict__"), (Value.builtin "function.__dict__#set")]) #[])
def hO376 (P : Params) : Obj := (Obj.mk (Value.type "getset_descriptor") (Option.none) (Data.fields #[(Value.str (Str.ofString "__weakref__") 568), (Value.ref 273), (Value.builtin "ExceptionGroup.__weakref__"), Value.none]) #[])
def hO377 (P : Params) : Obj := (Obj.mk (Value.type "super") (Option.none) (Data.fields #[(Value.ref 273), (Value.ref 273), (Value.ref 273)]) #[])
def hO378 (P : Params) : Obj := (Obj.mk (Value.type "builtin_function_or_method") (Option.none) (Data.fields #[(Value.builtin "object.__init_subclass__"), (Value.ref 273)]) #[])
def hO379 (P : Params) : Obj := (Obj.mk (Value.type "dict") (Option.none) (Data.dict #[(DictEntry.mk (PyData.keyHash P (Str.ofString "__name__")) (Value.str (Str.ofString "__name__") 165) (Value.str (Str.ofString "law_ja0044_01") 572)), (DictEntry.mk (PyData.keyHash P (Str.ofString "__doc__")) (Value.str (Str.ofString "__doc__") 166) Value.none), (DictEntry.mk (PyData.keyHash P (Str.ofString "__package__")) (Value.str (Str.ofString "__package__") 167) Value.none), (DictEntry.mk (PyData.keyHash P (Str.ofString "__loader__")) (Value.str (Str.ofString "__loader__") 168) (Value.builtin "__main__.__loader__#opaque")), (DictEntry.mk (PyData.keyHash P (Str.ofString "__spec__")) (Value.str (Str.ofString "__spec__") 169) Value.none), (DictEntry.mk (PyData.keyHash P (Str.ofString "__annotations__")) (Value.str (Str.ofString "__annotations__") 170) (Value.ref 6)), (DictEntry.mk (PyData.keyHash P (Str.ofString "__builtins__")) (Value.str (Str.ofString "__builtins__") 171) (Value.ref 4)), (DictEntry.mk (PyData.keyHash P (Str.ofString "__file__")) (Value.str (Str.ofString "__file__") 173) (Value.str (Str.ofString "/claim/cut.py") 172)), (DictEntry.mk (PyData.keyHash P (Str.ofString "__cached__")) (Value.str (Str.ofString "__cached__") 174) Value.none), (DictEntry.mk (PyData.keyHash P (Str.ofString "_wall")) (Value.str (Str.ofString "_wall") 193) (Value.ref 21)), (DictEntry.mk (PyData.keyHash P (Str.ofString "arg_min")) (Value.str (Str.ofString "arg_min") 203) (Value.ref 28)), (DictEntry.mk (PyData.keyHash P (Str.ofString "to_contour_orientation")) (Value.str (Str.ofString "to_contour_orientation") 213) (Value.ref 35)), (DictEntry.mk (PyData.keyHash P (Str.ofString "_tuplegetter")) (Value.str (Str.ofString "_tuplegetter") 272) (Value.ref 74)), (DictEntry.mk (PyData.keyHash P (Str.ofString "Point")) (Value.str (Str.ofString "Point") 387) (Value.ref 146)), (DictEntry.mk (PyData.keyHash P (Str.ofString "Kind")) (Value.str (Str.ofString "Kind") 425) (Value.ref 173)), (DictEntry.mk (PyData.keyHash P (Str.ofString "Orientation")) (Value.str (Str.ofString "Orientation") 464) (Value.ref 196)), (DictEntry.mk (PyData.keyHash P (Str.ofString "Contour")) (Value.str (Str.ofString "Contour") 493) (Value.ref 217)), (DictEntry.mk (PyData.keyHash P (Str.ofString "Context")) (Value.str (Str.ofString "Context") 571) (Value.ref 273)), (DictEntry.mk (PyData.keyHash P (Str.ofString "_law_side")) (Value.str (Str.ofString "_law_side") 584) (Value.ref 284)), (DictEntry.mk (PyData.keyHash P (Str.ofString "_law_upon")) (Value.str (Str.ofString "_law_upon") 592) (Value.ref 291)), (DictEntry.mk (PyData.keyHash P (Str.ofString "_law_apart")) (Value.str (Str.ofString "_law_apart") 598) (Value.ref 296)), (DictEntry.mk (PyData.keyHash P (Str.ofString "_law_around")) (Value.str (Str.ofString "_law_around") 611) (Value.ref 303)), (DictEntry.mk (PyData.keyHash P (Str.ofString "_law_simple")) (Value.str (Str.ofString "_law_simple") 617) (Value.ref 308)), (DictEntry.mk (PyData.keyHash P (Str.ofString "law")) (Value.str (Str.ofString "law") 623) (Value.ref 313))] 24) #[])
def hO380 (P : Params) : Obj := (Obj.mk Value.none (Option.none) (Data.fields #[(Value.int 1 0), (Value.int 0 0), (Value.ref 20), (Value.int 5 0), (Value.int 0 0), (Value.ref 27), (Value.int 7 0), (Value.int 0 0), (Value.ref 34), (Value.int 12 0), (Value.int 0 0), (Value.ref 41), (Value.int 30 0), (Value.int 0 0), (Value.ref 85), (Value.int 72 0), (Value.int 0 0), (Value.ref 155), (Value.int 80 0), (Value.int 0 0), (Value.ref 183), (Value.int 84 0), (Value.int 0 0), (Value.ref 206), (Value.int 88 0), (Value.int 0 0), (Value.ref 227), (Value.int 115 0), (Value.int 0 0), (Value.ref 283), (Value.int 119 0), (Value.int 0 0), (Value.ref 290), (Value.int 121 0), (Value.int 0 0), (Value.ref 295), (Value.int 130 0), (Value.int 0 0), (Value.ref 302), (Value.int 141 0), (Value.int 0 0), (Value.ref 307), (Value.int 151 0), (Value.int 0 0), (Value.ref 312)]) #[])
def hO381 (P : Params) : Obj := (Obj.mk (Value.type "tuple") (Option.none) (Data.seq #[] 0) #[])
def hO382 (P : Params) : Obj := (Obj.mk Value.none (Option.none) (Data.fields #[]) #[])
def hO383 (P : Params) : Obj := (Obj.mk (Value.type "tuple") (Option.none) (Data.seq #[(Value.str (Str.ofString "one") 577), (Value.str (Str.ofString "place") 578), (Value.str (Str.ofString "a") 579), (Value.str (Str.ofString "b") 580), (Value.str (Str.ofString "value") 581)] 0) #[])
def hO384 (P : Params) : Obj := (Obj.mk (Value.type "tuple") (Option.none) (Data.seq #[] 0) #[])
def hO385 (P : Params) : Obj := (Obj.mk Value.none (Option.none) (Data.func (FuncData.mk (Str.ofString "_law_side") (Str.ofString "_law_side") (hArg (hStm 12)) (FuncBody.stmts (hBody (hStm 12))) (hScope (hStm 12)) 0 [] Value.none Value.none Value.none Value.none (Option.none) Value.none Value.none 0)) #[])
def hO386 (P : Params) : Obj := (Obj.mk (Value.type "code") (Option.none) (Data.fields #[(Value.str (Str.ofString "_law_side") 574), (Value.str (Str.ofString "_law_side") 575), (Value.str (Str.ofString "/claim/cut.py") 576), (Value.int 115 0), (Value.int 2 0), (Value.int 0 0), (Value.int 0 0), (Value.int 3 0), (Value.ref 278), (Value.bool Bool.true), (Value.int 181 0), (Value.ref 279), Value.none, (Value.ref 280), (Value.ref 281), (Value.ref 282), (Value.int 582 0), (Value.int 115 0), (Value.str (Str.ofString "/claim/cut.py") 583)]) #[])
def hO387 (P : Params) : Obj := (Obj.mk (Value.type "function") (Option.none) (Data.func (FuncData.mk (Str.ofString "_law_side") (Str.ofString "_law_side") (hArg (hStm 12)) (FuncBody.stmts (hBody (hStm 12))) (hScope (hStm 12)) 3 [] Value.none Value.none Value.none (Value.str (Str.ofString "law_ja0044_01") 572) (Option.none) (Value.ref 283) Value.none 0)) #[])
def hO388 (P : Params) : Obj := (Obj.mk (Value.type "tuple") (Option.none) (Data.seq #[] 0) #[])
def hO389 (P : Params) : Obj := (Obj.mk Value.none (Option.none) (Data.fields #[]) #[])
def hO390 (P : Params) : Obj := (Obj.mk (Value.type "tuple") (Option.none) (Data.seq #[(Value.str (Str.ofString "one") 588), (Value.str (Str.ofString "place") 589)] 0) #[])
def hO391 (P : Params) : Obj := (Obj.mk (Value.type "tuple") (Option.none) (Data.seq #[] 0) #[])
def hO392 (P : Params) : Obj := (Obj.mk Value.none (Option.none) (Data.func (FuncData.mk (Str.ofString "_law_upon") (Str.ofString "_law_upon") (hArg (hStm 13)) (FuncBody.stmts (hBody (hStm 13))) (hScope (hStm 13)) 0 [] Value.none Value.none Value.none Value.none (Option.none) Value.none Value.none 0)) #[])
def hO393 (P : Params) : Obj := (Obj.mk (Value.type "code") (Option.none) (Data.fields #[(Value.str (Str.ofString "_law_upon") 585), (Value.str (Str.ofString "_law_upon") 586), (Value.str (Str.ofString "/claim/cut.py") 587), (Value.int 119 0), (Value.int 2 0), (Value.int 0 0), (Value.int 0 0), (Value.int 3 0), (Value.ref 285), (Value.bool Bool.true), (Value.int 181 0), (Value.ref 286), Value.none, (Value.ref 287), (Value.ref 288), (Value.ref 289), (Value.int 590 0), (Value.int 119 0), (Value.str (Str.ofString "/claim/cut.py") 591)]) #[])
def hO394 (P : Params) : Obj := (Obj.mk (Value.type "function") (Option.none) (Data.func (FuncData.mk (Str.ofString "_law_upon") (Str.ofString "_law_upon") (hArg (hStm 13)) (FuncBody.stmts (hBody (hStm 13))) (hScope (hStm 13)) 3 [] Value.none Value.none Value.none (Value.str (Str.ofString "law_ja0044_01") 572) (Option.none) (Value.ref 290) Value.none 0)) #[])
def hO395 (P : Params) : Obj := (Obj.mk (Value.type "tuple") (Option.none) (Data.seq #[] 0) #[])
def hO396 (P : Params) : Obj := (Obj.mk Value.none (Option.none) (Data.fields #[]) #[])
def hO397 (P : Params) : Obj := (Obj.mk Value.none (Option.none) (Data.func (FuncData.mk (Str.ofString "_law_apart") (Str.ofString "_law_apart") (hArg (hStm 14)) (FuncBody.stmts (hBody (hStm 14))) (hScope (hStm 14)) 0 [] Value.none Value.none Value.none Value.none (Option.none) Value.none Value.none 0)) #[])
def hO398 (P : Params) : Obj := (Obj.mk (Value.type "code") (Option.none) (Data.fields #[(Value.str (Str.ofString "_law_apart") 593), (Value.str (Str.ofString "_law_apart") 594), (Value.str (Str.ofString "/claim/cut.py") 595), (Value.int 121 0), (Value.int 2 0), (Value.int 0 0), (Value.int 0 0), (Value.int 3 0), (Value.ref 292), (Value.bool Bool.true), (Value.int 181 0), (Value.ref 293), Value.none, Value.none, Value.none, (Value.ref 294), (Value.int 596 0), (Value.int 121 0), (Value.str (Str.ofString "/claim/cut.py") 597)]) #[])
def hO399 (P : Params) : Obj := (Obj.mk (Value.type "function") (Option.none) (Data.func (FuncData.mk (Str.ofString "_law_apart") (Str.ofString "_law_apart") (hArg (hStm 14)) (FuncBody.stmts (hBody (hStm 14))) (hScope (hStm 14)) 3 [] Value.none Value.none Value.none (Value.str (Str.ofString "law_ja0044_01") 572) (Option.none) (Value.ref 295) Value.none 0)) #[])
def hO400 (P : Params) : Obj := (Obj.mk (Value.type "tuple") (Option.none) (Data.seq #[] 0) #[])
def hO401 (P : Params) : Obj := (Obj.mk Value.none (Option.none) (Data.fields #[]) #[])
def hO402 (P : Params) : Obj := (Obj.mk (Value.type "tuple") (Option.none) (Data.seq #[(Value.str (Str.ofString "points") 602), (Value.str (Str.ofString "row") 603), (Value.str (Str.ofString "a") 604), (Value.str (Str.ofString "b") 605), (Value.str (Str.ofString "below") 606), (Value.str (Str.ofString "above") 607), (Value.str (Str.ofString "place") 608)] 0) #[])
def hO403 (P : Params) : Obj := (Obj.mk (Value.type "tuple") (Option.none) (Data.seq #[] 0) #[])
def hO404 (P : Params) : Obj := (Obj.mk Value.none (Option.none) (Data.func (FuncData.mk (Str.ofString "_law_around") (Str.ofString "_law_around") (hArg (hStm 15)) (FuncBody.stmts (hBody (hStm 15))) (hScope (hStm 15)) 0 [] Value.none Value.none Value.none Value.none (Option.none) Value.none Value.none 0)) #[])
def hO405 (P : Params) : Obj := (Obj.mk (Value.type "code") (Option.none) (Data.fields #[(Value.str (Str.ofString "_law_around") 599), (Value.str (Str.ofString "_law_around") 600), (Value.str (Str.ofString "/claim/cut.py") 601), (Value.int 130 0), (Value.int 1 0), (Value.int 0 0), (Value.int 0 0), (Value.int 3 0), (Value.ref 297), (Value.bool Bool.true), (Value.int 181 0), (Value.ref 298), Value.none, (Value.ref 299), (Value.ref 300), (Value.ref 301), (Value.int 609 0), (Value.int 130 0), (Value.str (Str.ofString "/claim/cut.py") 610)]) #[])
def hO406 (P : Params) : Obj := (Obj.mk (Value.type "function") (Option.none) (Data.func (FuncData.mk (Str.ofString "_law_around") (Str.ofString "_law_around") (hArg (hStm 15)) (FuncBody.stmts (hBody (hStm 15))) (hScope (hStm 15)) 3 [] Value.none Value.none Value.none (Value.str (Str.ofString "law_ja0044_01") 572) (Option.none) (Value.ref 302) Value.none 0)) #[])
def hO407 (P : Params) : Obj := (Obj.mk (Value.type "tuple") (Option.none) (Data.seq #[] 0) #[])
def hO408 (P : Params) : Obj := (Obj.mk Value.none (Option.none) (Data.fields #[]) #[])
def hO409 (P : Params) : Obj := (Obj.mk Value.none (Option.none) (Data.func (FuncData.mk (Str.ofString "_law_simple") (Str.ofString "_law_simple") (hArg (hStm 16)) (FuncBody.stmts (hBody (hStm 16))) (hScope (hStm 16)) 0 [] Value.none Value.none Value.none Value.none (Option.none) Value.none Value.none 0)) #[])
def hO410 (P : Params) : Obj := (Obj.mk (Value.type "code") (Option.none) (Data.fields #[(Value.str (Str.ofString "_law_simple") 612), (Value.str (Str.ofString "_law_simple") 613), (Value.str (Str.ofString "/claim/cut.py") 614), (Value.int 141 0), (Value.int 1 0), (Value.int 0 0), (Value.int 0 0), (Value.int 3 0), (Value.ref 304), (Value.bool Bool.true), (Value.int 181 0), (Value.ref 305), Value.none, Value.none, Value.none, (Value.ref 306), (Value.int 615 0), (Value.int 141 0), (Value.str (Str.ofString "/claim/cut.py") 616)]) #[])
def hO411 (P : Params) : Obj := (Obj.mk (Value.type "function") (Option.none) (Data.func (FuncData.mk (Str.ofString "_law_simple") (Str.ofString "_law_simple") (hArg (hStm 16)) (FuncBody.stmts (hBody (hStm 16))) (hScope (hStm 16)) 3 [] Value.none Value.none Value.none (Value.str (Str.ofString "law_ja0044_01") 572) (Option.none) (Value.ref 307) Value.none 0)) #[])
def hO412 (P : Params) : Obj := (Obj.mk (Value.type "tuple") (Option.none) (Data.seq #[] 0) #[])
def hO413 (P : Params) : Obj := (Obj.mk Value.none (Option.none) (Data.fields #[]) #[])
def hO414 (P : Params) : Obj := (Obj.mk Value.none (Option.none) (Data.func (FuncData.mk (Str.ofString "law") (Str.ofString "law") (hArg (hStm 17)) (FuncBody.stmts (hBody (hStm 17))) (hScope (hStm 17)) 0 [] Value.none Value.none Value.none Value.none (Option.none) Value.none Value.none 0)) #[])
def hO415 (P : Params) : Obj := (Obj.mk (Value.type "code") (Option.none) (Data.fields #[(Value.str (Str.ofString "law") 618), (Value.str (Str.ofString "law") 619), (Value.str (Str.ofString "/claim/cut.py") 620), (Value.int 151 0), (Value.int 1 0), (Value.int 0 0), (Value.int 0 0), (Value.int 3 0), (Value.ref 309), (Value.bool Bool.true), (Value.int 181 0), (Value.ref 310), Value.none, Value.none, Value.none, (Value.ref 311), (Value.int 621 0), (Value.int 151 0), (Value.str (Str.ofString "/claim/cut.py") 622)]) #[])
def hO416 (P : Params) : Obj := (Obj.mk (Value.type "function") (Option.none) (Data.func (FuncData.mk (Str.ofString "law") (Str.ofString "law") (hArg (hStm 17)) (FuncBody.stmts (hBody (hStm 17))) (hScope (hStm 17)) 3 [] Value.none Value.none Value.none (Value.str (Str.ofString "law_ja0044_01") 572) (Option.none) (Value.ref 312) Value.none 0)) #[])
def hT47 (P : Params) : BT := (BT.node (boot_o_0 P) (BT.node (boot_o_1 P) (BT.node (boot_o_3 P) (BT.node (boot_o_7 P) BT.nil BT.nil) (BT.node (hO43 P) BT.nil BT.nil)) (BT.node (boot_o_5 P) (BT.node (boot_o_9 P) BT.nil BT.nil) (BT.node (hO45 P) BT.nil BT.nil))) (BT.node (boot_o_2 P) (BT.node (boot_o_4 P) (BT.node (boot_o_8 P) BT.nil BT.nil) (BT.node (hO44 P) BT.nil BT.nil)) (BT.node (boot_o_6 P) (BT.node (boot_o_10 P) BT.nil BT.nil) (BT.node (hO46 P) BT.nil BT.nil))))
def hT71 (P : Params) : BT := (BT.node (boot_o_0 P) (BT.node (boot_o_1 P) (BT.node (hO49 P) (BT.node (boot_o_7 P) (BT.node (hO51 P) (BT.node (hO67 P) BT.nil BT.nil) BT.nil) (BT.node (hO59 P) BT.nil BT.nil)) (BT.node (hO43 P) (BT.node (hO55 P) (BT.node (hO71 P) BT.nil BT.nil) BT.nil) (BT.node (hO63 P) BT.nil BT.nil))) (BT.node (boot_o_5 P) (BT.node (boot_o_9 P) (BT.node (hO53 P) (BT.node (hO69 P) BT.nil BT.nil) BT.nil) (BT.node (hO61 P) BT.nil BT.nil)) (BT.node (hO45 P) (BT.node (hO57 P) BT.nil BT.nil) (BT.node (hO65 P) BT.nil BT.nil)))) (BT.node (boot_o_2 P) (BT.node (boot_o_4 P) (BT.node (boot_o_8 P) (BT.node (hO52 P) (BT.node (hO68 P) BT.nil BT.nil) BT.nil) (BT.node (hO60 P) BT.nil BT.nil)) (BT.node (hO50 P) (BT.node (hO56 P) BT.nil BT.nil) (BT.node (hO64 P) BT.nil BT.nil))) (BT.node (boot_o_6 P) (BT.node (boot_o_10 P) (BT.node (hO54 P) (BT.node (hO70 P) BT.nil BT.nil) BT.nil) (BT.node (hO62 P) BT.nil BT.nil)) (BT.node (hO46 P) (BT.node (hO58 P) BT.nil BT.nil) (BT.node (hO66 P) BT.nil BT.nil)))))
def hT116 (P : Params) : BT := (BT.node (boot_o_0 P) (BT.node (boot_o_1 P) (BT.node (hO72 P) (BT.node (boot_o_7 P) (BT.node (hO51 P) (BT.node (hO67 P) (BT.node (hO101 P) BT.nil BT.nil) BT.nil) (BT.node (hO85 P) BT.nil BT.nil)) (BT.node (hO59 P) (BT.node (hO77 P) (BT.node (hO109 P) BT.nil BT.nil) BT.nil) (BT.node (hO93 P) BT.nil BT.nil))) (BT.node (hO43 P) (BT.node (hO55 P) (BT.node (hO71 P) (BT.node (hO105 P) BT.nil BT.nil) BT.nil) (BT.node (hO89 P) BT.nil BT.nil)) (BT.node (hO63 P) (BT.node (hO81 P) (BT.node (hO113 P) BT.nil BT.nil) BT.nil) (BT.node (hO97 P) BT.nil BT.nil)))) (BT.node (boot_o_5 P) (BT.node (boot_o_9 P) (BT.node (hO53 P) (BT.node (hO69 P) (BT.node (hO103 P) BT.nil BT.nil) BT.nil) (BT.node (hO87 P) BT.nil BT.nil)) (BT.node (hO61 P) (BT.node (hO79 P) (BT.node (hO111 P) BT.nil BT.nil) BT.nil) (BT.node (hO95 P) BT.nil BT.nil))) (BT.node (hO45 P) (BT.node (hO57 P) (BT.node (hO75 P) (BT.node (hO107 P) BT.nil BT.nil) BT.nil) (BT.node (hO91 P) BT.nil BT.nil)) (BT.node (hO65 P) (BT.node (hO83 P) (BT.node (hO115 P) BT.nil BT.nil) BT.nil) (BT.node (hO99 P) BT.nil BT.nil))))) (BT.node (boot_o_2 P) (BT.node (boot_o_4 P) (BT.node (boot_o_8 P) (BT.node (hO52 P) (BT.node (hO68 P) (BT.node (hO102 P) BT.nil BT.nil) BT.nil) (BT.node (hO86 P) BT.nil BT.nil)) (BT.node (hO60 P) (BT.node (hO78 P) (BT.node (hO110 P) BT.nil BT.nil) BT.nil) (BT.node (hO94 P) BT.nil BT.nil))) (BT.node (hO73 P) (BT.node (hO56 P) (BT.node (hO74 P) (BT.node (hO106 P) BT.nil BT.nil) BT.nil) (BT.node (hO90 P) BT.nil BT.nil)) (BT.node (hO64 P) (BT.node (hO82 P) (BT.node (hO114 P) BT.nil BT.nil) BT.nil) (BT.node (hO98 P) BT.nil BT.nil)))) (BT.node (boot_o_6 P) (BT.node (boot_o_10 P) (BT.node (hO54 P) (BT.node (hO70 P) (BT.node (hO104 P) BT.nil BT.nil) BT.nil) (BT.node (hO88 P) BT.nil BT.nil)) (BT.node (hO62 P) (BT.node (hO80 P) (BT.node (hO112 P) BT.nil BT.nil) BT.nil) (BT.node (hO96 P) BT.nil BT.nil))) (BT.node (hO46 P) (BT.node (hO58 P) (BT.node (hO76 P) (BT.node (hO108 P) BT.nil BT.nil) BT.nil) (BT.node (hO92 P) BT.nil BT.nil)) (BT.node (hO66 P) (BT.node (hO84 P) (BT.node (hO116 P) BT.nil BT.nil) BT.nil) (BT.node (hO100 P) BT.nil BT.nil))))))
def hT189 (P : Params) : BT := (BT.node (boot_o_0 P) (BT.node (boot_o_1 P) (BT.node (hO117 P) (BT.node (boot_o_7 P) (BT.node (hO51 P) (BT.node (hO67 P) (BT.node (hO101 P) (BT.node (hO167 P) BT.nil BT.nil) BT.nil) (BT.node (hO135 P) BT.nil BT.nil)) (BT.node (hO85 P) (BT.node (hO119 P) (BT.node (hO183 P) BT.nil BT.nil) BT.nil) (BT.node (hO151 P) BT.nil BT.nil))) (BT.node (hO59 P) (BT.node (hO77 P) (BT.node (hO109 P) (BT.node (hO175 P) BT.nil BT.nil) BT.nil) (BT.node (hO143 P) BT.nil BT.nil)) (BT.node (hO93 P) (BT.node (hO127 P) BT.nil BT.nil) (BT.node (hO159 P) BT.nil BT.nil)))) (BT.node (hO43 P) (BT.node (hO55 P) (BT.node (hO71 P) (BT.node (hO105 P) (BT.node (hO171 P) BT.nil BT.nil) BT.nil) (BT.node (hO139 P) BT.nil BT.nil)) (BT.node (hO89 P) (BT.node (hO123 P) (BT.node (hO187 P) BT.nil BT.nil) BT.nil) (BT.node (hO155 P) BT.nil BT.nil))) (BT.node (hO63 P) (BT.node (hO81 P) (BT.node (hO113 P) (BT.node (hO179 P) BT.nil BT.nil) BT.nil) (BT.node (hO147 P) BT.nil BT.nil)) (BT.node (hO97 P) (BT.node (hO131 P) BT.nil BT.nil) (BT.node (hO163 P) BT.nil BT.nil))))) (BT.node (boot_o_5 P) (BT.node (boot_o_9 P) (BT.node (hO53 P) (BT.node (hO69 P) (BT.node (hO103 P) (BT.node (hO169 P) BT.nil BT.nil) BT.nil) (BT.node (hO137 P) BT.nil BT.nil)) (BT.node (hO87 P) (BT.node (hO121 P) (BT.node (hO185 P) BT.nil BT.nil) BT.nil) (BT.node (hO153 P) BT.nil BT.nil))) (BT.node (hO61 P) (BT.node (hO79 P) (BT.node (hO111 P) (BT.node (hO177 P) BT.nil BT.nil) BT.nil) (BT.node (hO145 P) BT.nil BT.nil)) (BT.node (hO95 P) (BT.node (hO129 P) BT.nil BT.nil) (BT.node (hO161 P) BT.nil BT.nil)))) (BT.node (hO45 P) (BT.node (hO57 P) (BT.node (hO75 P) (BT.node (hO107 P) (BT.node (hO173 P) BT.nil BT.nil) BT.nil) (BT.node (hO141 P) BT.nil BT.nil)) (BT.node (hO91 P) (BT.node (hO125 P) (BT.node (hO189 P) BT.nil BT.nil) BT.nil) (BT.node (hO157 P) BT.nil BT.nil))) (BT.node (hO65 P) (BT.node (hO83 P) (BT.node (hO115 P) (BT.node (hO181 P) BT.nil BT.nil) BT.nil) (BT.node (hO149 P) BT.nil BT.nil)) (BT.node (hO99 P) (BT.node (hO133 P) BT.nil BT.nil) (BT.node (hO165 P) BT.nil BT.nil)))))) (BT.node (boot_o_2 P) (BT.node (boot_o_4 P) (BT.node (boot_o_8 P) (BT.node (hO52 P) (BT.node (hO68 P) (BT.node (hO102 P) (BT.node (hO168 P) BT.nil BT.nil) BT.nil) (BT.node (hO136 P) BT.nil BT.nil)) (BT.node (hO86 P) (BT.node (hO120 P) (BT.node (hO184 P) BT.nil BT.nil) BT.nil) (BT.node (hO152 P) BT.nil BT.nil))) (BT.node (hO60 P) (BT.node (hO78 P) (BT.node (hO110 P) (BT.node (hO176 P) BT.nil BT.nil) BT.nil) (BT.node (hO144 P) BT.nil BT.nil)) (BT.node (hO94 P) (BT.node (hO128 P) BT.nil BT.nil) (BT.node (hO160 P) BT.nil BT.nil)))) (BT.node (hO118 P) (BT.node (hO56 P) (BT.node (hO74 P) (BT.node (hO106 P) (BT.node (hO172 P) BT.nil BT.nil) BT.nil) (BT.node (hO140 P) BT.nil BT.nil)) (BT.node (hO90 P) (BT.node (hO124 P) (BT.node (hO188 P) BT.nil BT.nil) BT.nil) (BT.node (hO156 P) BT.nil BT.nil))) (BT.node (hO64 P) (BT.node (hO82 P) (BT.node (hO114 P) (BT.node (hO180 P) BT.nil BT.nil) BT.nil) (BT.node (hO148 P) BT.nil BT.nil)) (BT.node (hO98 P) (BT.node (hO132 P) BT.nil BT.nil) (BT.node (hO164 P) BT.nil BT.nil))))) (BT.node (boot_o_6 P) (BT.node (boot_o_10 P) (BT.node (hO54 P) (BT.node (hO70 P) (BT.node (hO104 P) (BT.node (hO170 P) BT.nil BT.nil) BT.nil) (BT.node (hO138 P) BT.nil BT.nil)) (BT.node (hO88 P) (BT.node (hO122 P) (BT.node (hO186 P) BT.nil BT.nil) BT.nil) (BT.node (hO154 P) BT.nil BT.nil))) (BT.node (hO62 P) (BT.node (hO80 P) (BT.node (hO112 P) (BT.node (hO178 P) BT.nil BT.nil) BT.nil) (BT.node (hO146 P) BT.nil BT.nil)) (BT.node (hO96 P) (BT.node (hO130 P) BT.nil BT.nil) (BT.node (hO162 P) BT.nil BT.nil)))) (BT.node (hO46 P) (BT.node (hO58 P) (BT.node (hO76 P) (BT.node (hO108 P) (BT.node (hO174 P) BT.nil BT.nil) BT.nil) (BT.node (hO142 P) BT.nil BT.nil)) (BT.node (hO92 P) (BT.node (hO126 P) BT.nil BT.nil) (BT.node (hO158 P) BT.nil BT.nil))) (BT.node (hO66 P) (BT.node (hO84 P) (BT.node (hO116 P) (BT.node (hO182 P) BT.nil BT.nil) BT.nil) (BT.node (hO150 P) BT.nil BT.nil)) (BT.node (hO100 P) (BT.node (hO134 P) BT.nil BT.nil) (BT.node (hO166 P) BT.nil BT.nil)))))))
def hT272 (P : Params) : BT := (BT.node (boot_o_0 P) (BT.node (boot_o_1 P) (BT.node (hO243 P) (BT.node (boot_o_7 P) (BT.node (hO51 P) (BT.node (hO67 P) (BT.node (hO101 P) (BT.node (hO167 P) BT.nil BT.nil) BT.nil) (BT.node (hO135 P) (BT.node (hO254 P) BT.nil BT.nil) BT.nil)) (BT.node (hO85 P) (BT.node (hO119 P) (BT.node (hO183 P) BT.nil BT.nil) BT.nil) (BT.node (hO151 P) (BT.node (hO270 P) BT.nil BT.nil) BT.nil))) (BT.node (hO59 P) (BT.node (hO77 P) (BT.node (hO109 P) (BT.node (hO175 P) BT.nil BT.nil) BT.nil) (BT.node (hO143 P) (BT.node (hO262 P) BT.nil BT.nil) BT.nil)) (BT.node (hO93 P) (BT.node (hO127 P) (BT.node (hO246 P) BT.nil BT.nil) BT.nil) (BT.node (hO159 P) BT.nil BT.nil)))) (BT.node (hO43 P) (BT.node (hO55 P) (BT.node (hO71 P) (BT.node (hO105 P) (BT.node (hO171 P) BT.nil BT.nil) BT.nil) (BT.node (hO139 P) (BT.node (hO258 P) BT.nil BT.nil) BT.nil)) (BT.node (hO89 P) (BT.node (hO123 P) (BT.node (hO187 P) BT.nil BT.nil) BT.nil) (BT.node (hO155 P) BT.nil BT.nil))) (BT.node (hO63 P) (BT.node (hO81 P) (BT.node (hO113 P) (BT.node (hO179 P) BT.nil BT.nil) BT.nil) (BT.node (hO147 P) (BT.node (hO266 P) BT.nil BT.nil) BT.nil)) (BT.node (hO97 P) (BT.node (hO131 P) (BT.node (hO250 P) BT.nil BT.nil) BT.nil) (BT.node (hO163 P) BT.nil BT.nil))))) (BT.node (boot_o_5 P) (BT.node (boot_o_9 P) (BT.node (hO53 P) (BT.node (hO69 P) (BT.node (hO103 P) (BT.node (hO169 P) BT.nil BT.nil) BT.nil) (BT.node (hO137 P) (BT.node (hO256 P) BT.nil BT.nil) BT.nil)) (BT.node (hO87 P) (BT.node (hO121 P) (BT.node (hO185 P) BT.nil BT.nil) BT.nil) (BT.node (hO153 P) (BT.node (hO272 P) BT.nil BT.nil) BT.nil))) (BT.node (hO61 P) (BT.node (hO79 P) (BT.node (hO111 P) (BT.node (hO177 P) BT.nil BT.nil) BT.nil) (BT.node (hO145 P) (BT.node (hO264 P) BT.nil BT.nil) BT.nil)) (BT.node (hO95 P) (BT.node (hO129 P) (BT.node (hO248 P) BT.nil BT.nil) BT.nil) (BT.node (hO161 P) BT.nil BT.nil)))) (BT.node (hO45 P) (BT.node (hO57 P) (BT.node (hO75 P) (BT.node (hO107 P) (BT.node (hO173 P) BT.nil BT.nil) BT.nil) (BT.node (hO141 P) (BT.node (hO260 P) BT.nil BT.nil) BT.nil)) (BT.node (hO91 P) (BT.node (hO125 P) (BT.node (hO189 P) BT.nil BT.nil) BT.nil) (BT.node (hO157 P) BT.nil BT.nil))) (BT.node (hO65 P) (BT.node (hO83 P) (BT.node (hO115 P) (BT.node (hO181 P) BT.nil BT.nil) BT.nil) (BT.node (hO149 P) (BT.node (hO268 P) BT.nil BT.nil) BT.nil)) (BT.node (hO99 P) (BT.node (hO133 P) (BT.node (hO252 P) BT.nil BT.nil) BT.nil) (BT.node (hO165 P) BT.nil BT.nil)))))) (BT.node (boot_o_2 P) (BT.node (boot_o_4 P) (BT.node (boot_o_8 P) (BT.node (hO52 P) (BT.node (hO68 P) (BT.node (hO102 P) (BT.node (hO168 P) BT.nil BT.nil) BT.nil) (BT.node (hO136 P) (BT.node (hO255 P) BT.nil BT.nil) BT.nil)) (BT.node (hO86 P) (BT.node (hO120 P) (BT.node (hO184 P) BT.nil BT.nil) BT.nil) (BT.node (hO152 P) (BT.node (hO271 P) BT.nil BT.nil) BT.nil))) (BT.node (hO60 P) (BT.node (hO78 P) (BT.node (hO110 P) (BT.node (hO176 P) BT.nil BT.nil) BT.nil) (BT.node (hO144 P) (BT.node (hO263 P) BT.nil BT.nil) BT.nil)) (BT.node (hO94 P) (BT.node (hO128 P) (BT.node (hO247 P) BT.nil BT.nil) BT.nil) (BT.node (hO160 P) BT.nil BT.nil)))) (BT.node (hO244 P) (BT.node (hO56 P) (BT.node (hO74 P) (BT.node (hO106 P) (BT.node (hO172 P) BT.nil BT.nil) BT.nil) (BT.node (hO140 P) (BT.node (hO259 P) BT.nil BT.nil) BT.nil)) (BT.node (hO90 P) (BT.node (hO124 P) (BT.node (hO188 P) BT.nil BT.nil) BT.nil) (BT.node (hO156 P) BT.nil BT.nil))) (BT.node (hO64 P) (BT.node (hO82 P) (BT.node (hO114 P) (BT.node (hO180 P) BT.nil BT.nil) BT.nil) (BT.node (hO148 P) (BT.node (hO267 P) BT.nil BT.nil) BT.nil)) (BT.node (hO98 P) (BT.node (hO132 P) (BT.node (hO251 P) BT.nil BT.nil) BT.nil) (BT.node (hO164 P) BT.nil BT.nil))))) (BT.node (boot_o_6 P) (BT.node (boot_o_10 P) (BT.node (hO54 P) (BT.node (hO70 P) (BT.node (hO104 P) (BT.node (hO170 P) BT.nil BT.nil) BT.nil) (BT.node (hO138 P) (BT.node (hO257 P) BT.nil BT.nil) BT.nil)) (BT.node (hO88 P) (BT.node (hO122 P) (BT.node (hO186 P) BT.nil BT.nil) BT.nil) (BT.node (hO154 P) BT.nil BT.nil))) (BT.node (hO62 P) (BT.node (hO80 P) (BT.node (hO112 P) (BT.node (hO178 P) BT.nil BT.nil) BT.nil) (BT.node (hO146 P) (BT.node (hO265 P) BT.nil BT.nil) BT.nil)) (BT.node (hO96 P) (BT.node (hO130 P) (BT.node (hO249 P) BT.nil BT.nil) BT.nil) (BT.node (hO162 P) BT.nil BT.nil)))) (BT.node (hO46 P) (BT.node (hO58 P) (BT.node (hO76 P) (BT.node (hO108 P) (BT.node (hO174 P) BT.nil BT.nil) BT.nil) (BT.node (hO142 P) (BT.node (hO261 P) BT.nil BT.nil) BT.nil)) (BT.node (hO92 P) (BT.node (hO126 P) (BT.node (hO245 P) BT.nil BT.nil) BT.nil) (BT.node (hO158 P) BT.nil BT.nil))) (BT.node (hO66 P) (BT.node (hO84 P) (BT.node (hO116 P) (BT.node (hO182 P) BT.nil BT.nil) BT.nil) (BT.node (hO150 P) (BT.node (hO269 P) BT.nil BT.nil) BT.nil)) (BT.node (hO100 P) (BT.node (hO134 P) (BT.node (hO253 P) BT.nil BT.nil) BT.nil) (BT.node (hO166 P) BT.nil BT.nil)))))))
def hT297 (P : Params) : BT := (BT.node (boot_o_0 P) (BT.node (boot_o_1 P) (BT.node (hO273 P) (BT.node (boot_o_7 P) (BT.node (hO51 P) (BT.node (hO67 P) (BT.node (hO101 P) (BT.node (hO167 P) BT.nil BT.nil) (BT.node (hO288 P) BT.nil BT.nil)) (BT.node (hO135 P) (BT.node (hO254 P) BT.nil BT.nil) BT.nil)) (BT.node (hO85 P) (BT.node (hO119 P) (BT.node (hO183 P) BT.nil BT.nil) BT.nil) (BT.node (hO151 P) (BT.node (hO270 P) BT.nil BT.nil) BT.nil))) (BT.node (hO59 P) (BT.node (hO77 P) (BT.node (hO109 P) (BT.node (hO175 P) BT.nil BT.nil) (BT.node (hO296 P) BT.nil BT.nil)) (BT.node (hO143 P) (BT.node (hO262 P) BT.nil BT.nil) BT.nil)) (BT.node (hO93 P) (BT.node (hO127 P) (BT.node (hO246 P) BT.nil BT.nil) BT.nil) (BT.node (hO159 P) (BT.node (hO280 P) BT.nil BT.nil) BT.nil)))) (BT.node (hO43 P) (BT.node (hO55 P) (BT.node (hO71 P) (BT.node (hO105 P) (BT.node (hO171 P) BT.nil BT.nil) (BT.node (hO292 P) BT.nil BT.nil)) (BT.node (hO139 P) (BT.node (hO258 P) BT.nil BT.nil) BT.nil)) (BT.node (hO89 P) (BT.node (hO123 P) (BT.node (hO187 P) BT.nil BT.nil) BT.nil) (BT.node (hO155 P) (BT.node (hO276 P) BT.nil BT.nil) BT.nil))) (BT.node (hO63 P) (BT.node (hO81 P) (BT.node (hO113 P) (BT.node (hO179 P) BT.nil BT.nil) BT.nil) (BT.node (hO147 P) (BT.node (hO266 P) BT.nil BT.nil) BT.nil)) (BT.node (hO97 P) (BT.node (hO131 P) (BT.node (hO250 P) BT.nil BT.nil) BT.nil) (BT.node (hO163 P) (BT.node (hO284 P) BT.nil BT.nil) BT.nil))))) (BT.node (boot_o_5 P) (BT.node (boot_o_9 P) (BT.node (hO53 P) (BT.node (hO69 P) (BT.node (hO103 P) (BT.node (hO169 P) BT.nil BT.nil) (BT.node (hO290 P) BT.nil BT.nil)) (BT.node (hO137 P) (BT.node (hO256 P) BT.nil BT.nil) BT.nil)) (BT.node (hO87 P) (BT.node (hO121 P) (BT.node (hO185 P) BT.nil BT.nil) BT.nil) (BT.node (hO153 P) (BT.node (hO272 P) BT.nil BT.nil) BT.nil))) (BT.node (hO61 P) (BT.node (hO79 P) (BT.node (hO111 P) (BT.node (hO177 P) BT.nil BT.nil) BT.nil) (BT.node (hO145 P) (BT.node (hO264 P) BT.nil BT.nil) BT.nil)) (BT.node (hO95 P) (BT.node (hO129 P) (BT.node (hO248 P) BT.nil BT.nil) BT.nil) (BT.node (hO161 P) (BT.node (hO282 P) BT.nil BT.nil) BT.nil)))) (BT.node (hO45 P) (BT.node (hO57 P) (BT.node (hO75 P) (BT.node (hO107 P) (BT.node (hO173 P) BT.nil BT.nil) (BT.node (hO294 P) BT.nil BT.nil)) (BT.node (hO141 P) (BT.node (hO260 P) BT.nil BT.nil) BT.nil)) (BT.node (hO91 P) (BT.node (hO125 P) (BT.node (hO189 P) BT.nil BT.nil) BT.nil) (BT.node (hO157 P) (BT.node (hO278 P) BT.nil BT.nil) BT.nil))) (BT.node (hO65 P) (BT.node (hO83 P) (BT.node (hO115 P) (BT.node (hO181 P) BT.nil BT.nil) BT.nil) (BT.node (hO149 P) (BT.node (hO268 P) BT.nil BT.nil) BT.nil)) (BT.node (hO99 P) (BT.node (hO133 P) (BT.node (hO252 P) BT.nil BT.nil) BT.nil) (BT.node (hO165 P) (BT.node (hO286 P) BT.nil BT.nil) BT.nil)))))) (BT.node (boot_o_2 P) (BT.node (boot_o_4 P) (BT.node (boot_o_8 P) (BT.node (hO52 P) (BT.node (hO68 P) (BT.node (hO102 P) (BT.node (hO168 P) BT.nil BT.nil) (BT.node (hO289 P) BT.nil BT.nil)) (BT.node (hO136 P) (BT.node (hO255 P) BT.nil BT.nil) BT.nil)) (BT.node (hO86 P) (BT.node (hO120 P) (BT.node (hO184 P) BT.nil BT.nil) BT.nil) (BT.node (hO152 P) (BT.node (hO271 P) BT.nil BT.nil) BT.nil))) (BT.node (hO60 P) (BT.node (hO78 P) (BT.node (hO110 P) (BT.node (hO176 P) BT.nil BT.nil) (BT.node (hO297 P) BT.nil BT.nil)) (BT.node (hO144 P) (BT.node (hO263 P) BT.nil BT.nil) BT.nil)) (BT.node (hO94 P) (BT.node (hO128 P) (BT.node (hO247 P) BT.nil BT.nil) BT.nil) (BT.node (hO160 P) (BT.node (hO281 P) BT.nil BT.nil) BT.nil)))) (BT.node (hO274 P) (BT.node (hO56 P) (BT.node (hO74 P) (BT.node (hO106 P) (BT.node (hO172 P) BT.nil BT.nil) (BT.node (hO293 P) BT.nil BT.nil)) (BT.node (hO140 P) (BT.node (hO259 P) BT.nil BT.nil) BT.nil)) (BT.node (hO90 P) (BT.node (hO124 P) (BT.node (hO188 P) BT.nil BT.nil) BT.nil) (BT.node (hO156 P) (BT.node (hO277 P) BT.nil BT.nil) BT.nil))) (BT.node (hO64 P) (BT.node (hO82 P) (BT.node (hO114 P) (BT.node (hO180 P) BT.nil BT.nil) BT.nil) (BT.node (hO148 P) (BT.node (hO267 P) BT.nil BT.nil) BT.nil)) (BT.node (hO98 P) (BT.node (hO132 P) (BT.node (hO251 P) BT.nil BT.nil) BT.nil) (BT.node (hO164 P) (BT.node (hO285 P) BT.nil BT.nil) BT.nil))))) (BT.node (boot_o_6 P) (BT.node (boot_o_10 P) (BT.node (hO54 P) (BT.node (hO70 P) (BT.node (hO104 P) (BT.node (hO170 P) BT.nil BT.nil) (BT.node (hO291 P) BT.nil BT.nil)) (BT.node (hO138 P) (BT.node (hO257 P) BT.nil BT.nil) BT.nil)) (BT.node (hO88 P) (BT.node (hO122 P) (BT.node (hO186 P) BT.nil BT.nil) BT.nil) (BT.node (hO154 P) (BT.node (hO275 P) BT.nil BT.nil) BT.nil))) (BT.node (hO62 P) (BT.node (hO80 P) (BT.node (hO112 P) (BT.node (hO178 P) BT.nil BT.nil) BT.nil) (BT.node (hO146 P) (BT.node (hO265 P) BT.nil BT.nil) BT.nil)) (BT.node (hO96 P) (BT.node (hO130 P) (BT.node (hO249 P) BT.nil BT.nil) BT.nil) (BT.node (hO162 P) (BT.node (hO283 P) BT.nil BT.nil) BT.nil)))) (BT.node (hO46 P) (BT.node (hO58 P) (BT.node (hO76 P) (BT.node (hO108 P) (BT.node (hO174 P) BT.nil BT.nil) (BT.node (hO295 P) BT.nil BT.nil)) (BT.node (hO142 P) (BT.node (hO261 P) BT.nil BT.nil) BT.nil)) (BT.node (hO92 P) (BT.node (hO126 P) (BT.node (hO245 P) BT.nil BT.nil) BT.nil) (BT.node (hO158 P) (BT.node (hO279 P) BT.nil BT.nil) BT.nil))) (BT.node (hO66 P) (BT.node (hO84 P) (BT.node (hO116 P) (BT.node (hO182 P) BT.nil BT.nil) BT.nil) (BT.node (hO150 P) (BT.node (hO269 P) BT.nil BT.nil) BT.nil)) (BT.node (hO100 P) (BT.node (hO134 P) (BT.node (hO253 P) BT.nil BT.nil) BT.nil) (BT.node (hO166 P) (BT.node (hO287 P) BT.nil BT.nil) BT.nil)))))))
def hT320 (P : Params) : BT := (BT.node (boot_o_0 P) (BT.node (boot_o_1 P) (BT.node (hO298 P) (BT.node (boot_o_7 P) (BT.node (hO51 P) (BT.node (hO67 P) (BT.node (hO101 P) (BT.node (hO167 P) BT.nil BT.nil) (BT.node (hO288 P) BT.nil BT.nil)) (BT.node (hO135 P) (BT.node (hO254 P) BT.nil BT.nil) BT.nil)) (BT.node (hO85 P) (BT.node (hO119 P) (BT.node (hO183 P) BT.nil BT.nil) (BT.node (hO306 P) BT.nil BT.nil)) (BT.node (hO151 P) (BT.node (hO270 P) BT.nil BT.nil) BT.nil))) (BT.node (hO59 P) (BT.node (hO77 P) (BT.node (hO109 P) (BT.node (hO175 P) BT.nil BT.nil) (BT.node (hO296 P) BT.nil BT.nil)) (BT.node (hO143 P) (BT.node (hO262 P) BT.nil BT.nil) BT.nil)) (BT.node (hO93 P) (BT.node (hO127 P) (BT.node (hO246 P) BT.nil BT.nil) (BT.node (hO314 P) BT.nil BT.nil)) (BT.node (hO159 P) (BT.node (hO280 P) BT.nil BT.nil) BT.nil)))) (BT.node (hO43 P) (BT.node (hO55 P) (BT.node (hO71 P) (BT.node (hO105 P) (BT.node (hO171 P) BT.nil BT.nil) (BT.node (hO292 P) BT.nil BT.nil)) (BT.node (hO139 P) (BT.node (hO258 P) BT.nil BT.nil) BT.nil)) (BT.node (hO89 P) (BT.node (hO123 P) (BT.node (hO187 P) BT.nil BT.nil) (BT.node (hO310 P) BT.nil BT.nil)) (BT.node (hO155 P) (BT.node (hO276 P) BT.nil BT.nil) BT.nil))) (BT.node (hO63 P) (BT.node (hO81 P) (BT.node (hO113 P) (BT.node (hO179 P) BT.nil BT.nil) (BT.node (hO302 P) BT.nil BT.nil)) (BT.node (hO147 P) (BT.node (hO266 P) BT.nil BT.nil) BT.nil)) (BT.node (hO97 P) (BT.node (hO131 P) (BT.node (hO250 P) BT.nil BT.nil) (BT.node (hO318 P) BT.nil BT.nil)) (BT.node (hO163 P) (BT.node (hO284 P) BT.nil BT.nil) BT.nil))))) (BT.node (boot_o_5 P) (BT.node (boot_o_9 P) (BT.node (hO53 P) (BT.node (hO69 P) (BT.node (hO103 P) (BT.node (hO169 P) BT.nil BT.nil) (BT.node (hO290 P) BT.nil BT.nil)) (BT.node (hO137 P) (BT.node (hO256 P) BT.nil BT.nil) BT.nil)) (BT.node (hO87 P) (BT.node (hO121 P) (BT.node (hO185 P) BT.nil BT.nil) (BT.node (hO308 P) BT.nil BT.nil)) (BT.node (hO153 P) (BT.node (hO272 P) BT.nil BT.nil) BT.nil))) (BT.node (hO61 P) (BT.node (hO79 P) (BT.node (hO111 P) (BT.node (hO177 P) BT.nil BT.nil) (BT.node (hO300 P) BT.nil BT.nil)) (BT.node (hO145 P) (BT.node (hO264 P) BT.nil BT.nil) BT.nil)) (BT.node (hO95 P) (BT.node (hO129 P) (BT.node (hO248 P) BT.nil BT.nil) (BT.node (hO316 P) BT.nil BT.nil)) (BT.node (hO161 P) (BT.node (hO282 P) BT.nil BT.nil) BT.nil)))) (BT.node (hO45 P) (BT.node (hO57 P) (BT.node (hO75 P) (BT.node (hO107 P) (BT.node (hO173 P) BT.nil BT.nil) (BT.node (hO294 P) BT.nil BT.nil)) (BT.node (hO141 P) (BT.node (hO260 P) BT.nil BT.nil) BT.nil)) (BT.node (hO91 P) (BT.node (hO125 P) (BT.node (hO189 P) BT.nil BT.nil) (BT.node (hO312 P) BT.nil BT.nil)) (BT.node (hO157 P) (BT.node (hO278 P) BT.nil BT.nil) BT.nil))) (BT.node (hO65 P) (BT.node (hO83 P) (BT.node (hO115 P) (BT.node (hO181 P) BT.nil BT.nil) (BT.node (hO304 P) BT.nil BT.nil)) (BT.node (hO149 P) (BT.node (hO268 P) BT.nil BT.nil) BT.nil)) (BT.node (hO99 P) (BT.node (hO133 P) (BT.node (hO252 P) BT.nil BT.nil) (BT.node (hO320 P) BT.nil BT.nil)) (BT.node (hO165 P) (BT.node (hO286 P) BT.nil BT.nil) BT.nil)))))) (BT.node (boot_o_2 P) (BT.node (boot_o_4 P) (BT.node (boot_o_8 P) (BT.node (hO52 P) (BT.node (hO68 P) (BT.node (hO102 P) (BT.node (hO168 P) BT.nil BT.nil) (BT.node (hO289 P) BT.nil BT.nil)) (BT.node (hO136 P) (BT.node (hO255 P) BT.nil BT.nil) BT.nil)) (BT.node (hO86 P) (BT.node (hO120 P) (BT.node (hO184 P) BT.nil BT.nil) (BT.node (hO307 P) BT.nil BT.nil)) (BT.node (hO152 P) (BT.node (hO271 P) BT.nil BT.nil) BT.nil))) (BT.node (hO60 P) (BT.node (hO78 P) (BT.node (hO110 P) (BT.node (hO176 P) BT.nil BT.nil) (BT.node (hO297 P) BT.nil BT.nil)) (BT.node (hO144 P) (BT.node (hO263 P) BT.nil BT.nil) BT.nil)) (BT.node (hO94 P) (BT.node (hO128 P) (BT.node (hO247 P) BT.nil BT.nil) (BT.node (hO315 P) BT.nil BT.nil)) (BT.node (hO160 P) (BT.node (hO281 P) BT.nil BT.nil) BT.nil)))) (BT.node (hO299 P) (BT.node (hO56 P) (BT.node (hO74 P) (BT.node (hO106 P) (BT.node (hO172 P) BT.nil BT.nil) (BT.node (hO293 P) BT.nil BT.nil)) (BT.node (hO140 P) (BT.node (hO259 P) BT.nil BT.nil) BT.nil)) (BT.node (hO90 P) (BT.node (hO124 P) (BT.node (hO188 P) BT.nil BT.nil) (BT.node (hO311 P) BT.nil BT.nil)) (BT.node (hO156 P) (BT.node (hO277 P) BT.nil BT.nil) BT.nil))) (BT.node (hO64 P) (BT.node (hO82 P) (BT.node (hO114 P) (BT.node (hO180 P) BT.nil BT.nil) (BT.node (hO303 P) BT.nil BT.nil)) (BT.node (hO148 P) (BT.node (hO267 P) BT.nil BT.nil) BT.nil)) (BT.node (hO98 P) (BT.node (hO132 P) (BT.node (hO251 P) BT.nil BT.nil) (BT.node (hO319 P) BT.nil BT.nil)) (BT.node (hO164 P) (BT.node (hO285 P) BT.nil BT.nil) BT.nil))))) (BT.node (boot_o_6 P) (BT.node (boot_o_10 P) (BT.node (hO54 P) (BT.node (hO70 P) (BT.node (hO104 P) (BT.node (hO170 P) BT.nil BT.nil) (BT.node (hO291 P) BT.nil BT.nil)) (BT.node (hO138 P) (BT.node (hO257 P) BT.nil BT.nil) BT.nil)) (BT.node (hO88 P) (BT.node (hO122 P) (BT.node (hO186 P) BT.nil BT.nil) (BT.node (hO309 P) BT.nil BT.nil)) (BT.node (hO154 P) (BT.node (hO275 P) BT.nil BT.nil) BT.nil))) (BT.node (hO62 P) (BT.node (hO80 P) (BT.node (hO112 P) (BT.node (hO178 P) BT.nil BT.nil) (BT.node (hO301 P) BT.nil BT.nil)) (BT.node (hO146 P) (BT.node (hO265 P) BT.nil BT.nil) BT.nil)) (BT.node (hO96 P) (BT.node (hO130 P) (BT.node (hO249 P) BT.nil BT.nil) (BT.node (hO317 P) BT.nil BT.nil)) (BT.node (hO162 P) (BT.node (hO283 P) BT.nil BT.nil) BT.nil)))) (BT.node (hO46 P) (BT.node (hO58 P) (BT.node (hO76 P) (BT.node (hO108 P) (BT.node (hO174 P) BT.nil BT.nil) (BT.node (hO295 P) BT.nil BT.nil)) (BT.node (hO142 P) (BT.node (hO261 P) BT.nil BT.nil) BT.nil)) (BT.node (hO92 P) (BT.node (hO126 P) (BT.node (hO245 P) BT.nil BT.nil) (BT.node (hO313 P) BT.nil BT.nil)) (BT.node (hO158 P) (BT.node (hO279 P) BT.nil BT.nil) BT.nil))) (BT.node (hO66 P) (BT.node (hO84 P) (BT.node (hO116 P) (BT.node (hO182 P) BT.nil BT.nil) (BT.node (hO305 P) BT.nil BT.nil)) (BT.node (hO150 P) (BT.node (hO269 P) BT.nil BT.nil) BT.nil)) (BT.node (hO100 P) (BT.node (hO134 P) (BT.node (hO253 P) BT.nil BT.nil) BT.nil) (BT.node (hO166 P) (BT.node (hO287 P) BT.nil BT.nil) BT.nil)))))))
def hT378 (P : Params) : BT := (BT.node (boot_o_0 P) (BT.node (boot_o_1 P) (BT.node (hO321 P) (BT.node (boot_o_7 P) (BT.node (hO51 P) (BT.node (hO67 P) (BT.node (hO101 P) (BT.node (hO167 P) (BT.node (hO356 P) BT.nil BT.nil) BT.nil) (BT.node (hO288 P) BT.nil BT.nil)) (BT.node (hO135 P) (BT.node (hO254 P) BT.nil BT.nil) (BT.node (hO324 P) BT.nil BT.nil))) (BT.node (hO85 P) (BT.node (hO119 P) (BT.node (hO183 P) (BT.node (hO372 P) BT.nil BT.nil) BT.nil) (BT.node (hO306 P) BT.nil BT.nil)) (BT.node (hO151 P) (BT.node (hO270 P) BT.nil BT.nil) (BT.node (hO340 P) BT.nil BT.nil)))) (BT.node (hO59 P) (BT.node (hO77 P) (BT.node (hO109 P) (BT.node (hO175 P) (BT.node (hO364 P) BT.nil BT.nil) BT.nil) (BT.node (hO296 P) BT.nil BT.nil)) (BT.node (hO143 P) (BT.node (hO262 P) BT.nil BT.nil) (BT.node (hO332 P) BT.nil BT.nil))) (BT.node (hO93 P) (BT.node (hO127 P) (BT.node (hO246 P) BT.nil BT.nil) (BT.node (hO314 P) BT.nil BT.nil)) (BT.node (hO159 P) (BT.node (hO280 P) BT.nil BT.nil) (BT.node (hO348 P) BT.nil BT.nil))))) (BT.node (hO43 P) (BT.node (hO55 P) (BT.node (hO71 P) (BT.node (hO105 P) (BT.node (hO171 P) (BT.node (hO360 P) BT.nil BT.nil) BT.nil) (BT.node (hO292 P) BT.nil BT.nil)) (BT.node (hO139 P) (BT.node (hO258 P) BT.nil BT.nil) (BT.node (hO328 P) BT.nil BT.nil))) (BT.node (hO89 P) (BT.node (hO123 P) (BT.node (hO187 P) (BT.node (hO376 P) BT.nil BT.nil) BT.nil) (BT.node (hO310 P) BT.nil BT.nil)) (BT.node (hO155 P) (BT.node (hO276 P) BT.nil BT.nil) (BT.node (hO344 P) BT.nil BT.nil)))) (BT.node (hO63 P) (BT.node (hO81 P) (BT.node (hO113 P) (BT.node (hO179 P) (BT.node (hO368 P) BT.nil BT.nil) BT.nil) (BT.node (hO302 P) BT.nil BT.nil)) (BT.node (hO147 P) (BT.node (hO266 P) BT.nil BT.nil) (BT.node (hO336 P) BT.nil BT.nil))) (BT.node (hO97 P) (BT.node (hO131 P) (BT.node (hO250 P) BT.nil BT.nil) (BT.node (hO318 P) BT.nil BT.nil)) (BT.node (hO163 P) (BT.node (hO284 P) BT.nil BT.nil) (BT.node (hO352 P) BT.nil BT.nil)))))) (BT.node (boot_o_5 P) (BT.node (boot_o_9 P) (BT.node (hO53 P) (BT.node (hO69 P) (BT.node (hO103 P) (BT.node (hO169 P) (BT.node (hO358 P) BT.nil BT.nil) BT.nil) (BT.node (hO290 P) BT.nil BT.nil)) (BT.node (hO137 P) (BT.node (hO256 P) BT.nil BT.nil) (BT.node (hO326 P) BT.nil BT.nil))) (BT.node (hO87 P) (BT.node (hO121 P) (BT.node (hO185 P) (BT.node (hO374 P) BT.nil BT.nil) BT.nil) (BT.node (hO308 P) BT.nil BT.nil)) (BT.node (hO153 P) (BT.node (hO272 P) BT.nil BT.nil) (BT.node (hO342 P) BT.nil BT.nil)))) (BT.node (hO61 P) (BT.node (hO79 P) (BT.node (hO111 P) (BT.node (hO177 P) (BT.node (hO366 P) BT.nil BT.nil) BT.nil) (BT.node (hO300 P) BT.nil BT.nil)) (BT.node (hO145 P) (BT.node (hO264 P) BT.nil BT.nil) (BT.node (hO334 P) BT.nil BT.nil))) (BT.node (hO95 P) (BT.node (hO129 P) (BT.node (hO248 P) BT.nil BT.nil) (BT.node (hO316 P) BT.nil BT.nil)) (BT.node (hO161 P) (BT.node (hO282 P) BT.nil BT.nil) (BT.node (hO350 P) BT.nil BT.nil))))) (BT.node (hO45 P) (BT.node (hO57 P) (BT.node (hO75 P) (BT.node (hO107 P) (BT.node (hO173 P) (BT.node (hO362 P) BT.nil BT.nil) BT.nil) (BT.node (hO294 P) BT.nil BT.nil)) (BT.node (hO141 P) (BT.node (hO260 P) BT.nil BT.nil) (BT.node (hO330 P) BT.nil BT.nil))) (BT.node (hO91 P) (BT.node (hO125 P) (BT.node (hO189 P) (BT.node (hO378 P) BT.nil BT.nil) BT.nil) (BT.node (hO312 P) BT.nil BT.nil)) (BT.node (hO157 P) (BT.node (hO278 P) BT.nil BT.nil) (BT.node (hO346 P) BT.nil BT.nil)))) (BT.node (hO65 P) (BT.node (hO83 P) (BT.node (hO115 P) (BT.node (hO181 P) (BT.node (hO370 P) BT.nil BT.nil) BT.nil) (BT.node (hO304 P) BT.nil BT.nil)) (BT.node (hO149 P) (BT.node (hO268 P) BT.nil BT.nil) (BT.node (hO338 P) BT.nil BT.nil))) (BT.node (hO99 P) (BT.node (hO133 P) (BT.node (hO252 P) BT.nil BT.nil) (BT.node (hO320 P) BT.nil BT.nil)) (BT.node (hO165 P) (BT.node (hO286 P) BT.nil BT.nil) (BT.node (hO354 P) BT.nil BT.nil))))))) (BT.node (boot_o_2 P) (BT.node (boot_o_4 P) (BT.node (boot_o_8 P) (BT.node (hO52 P) (BT.node (hO68 P) (BT.node (hO102 P) (BT.node (hO168 P) (BT.node (hO357 P) BT.nil BT.nil) BT.nil) (BT.node (hO289 P) BT.nil BT.nil)) (BT.node (hO136 P) (BT.node (hO255 P) BT.nil BT.nil) (BT.node (hO325 P) BT.nil BT.nil))) (BT.node (hO86 P) (BT.node (hO120 P) (BT.node (hO184 P) (BT.node (hO373 P) BT.nil BT.nil) BT.nil) (BT.node (hO307 P) BT.nil BT.nil)) (BT.node (hO152 P) (BT.node (hO271 P) BT.nil BT.nil) (BT.node (hO341 P) BT.nil BT.nil)))) (BT.node (hO60 P) (BT.node (hO78 P) (BT.node (hO110 P) (BT.node (hO176 P) (BT.node (hO365 P) BT.nil BT.nil) BT.nil) (BT.node (hO297 P) BT.nil BT.nil)) (BT.node (hO144 P) (BT.node (hO263 P) BT.nil BT.nil) (BT.node (hO333 P) BT.nil BT.nil))) (BT.node (hO94 P) (BT.node (hO128 P) (BT.node (hO247 P) BT.nil BT.nil) (BT.node (hO315 P) BT.nil BT.nil)) (BT.node (hO160 P) (BT.node (hO281 P) BT.nil BT.nil) (BT.node (hO349 P) BT.nil BT.nil))))) (BT.node (hO322 P) (BT.node (hO56 P) (BT.node (hO74 P) (BT.node (hO106 P) (BT.node (hO172 P) (BT.node (hO361 P) BT.nil BT.nil) BT.nil) (BT.node (hO293 P) BT.nil BT.nil)) (BT.node (hO140 P) (BT.node (hO259 P) BT.nil BT.nil) (BT.node (hO329 P) BT.nil BT.nil))) (BT.node (hO90 P) (BT.node (hO124 P) (BT.node (hO188 P) (BT.node (hO377 P) BT.nil BT.nil) BT.nil) (BT.node (hO311 P) BT.nil BT.nil)) (BT.node (hO156 P) (BT.node (hO277 P) BT.nil BT.nil) (BT.node (hO345 P) BT.nil BT.nil)))) (BT.node (hO64 P) (BT.node (hO82 P) (BT.node (hO114 P) (BT.node (hO180 P) (BT.node (hO369 P) BT.nil BT.nil) BT.nil) (BT.node (hO303 P) BT.nil BT.nil)) (BT.node (hO148 P) (BT.node (hO267 P) BT.nil BT.nil) (BT.node (hO337 P) BT.nil BT.nil))) (BT.node (hO98 P) (BT.node (hO132 P) (BT.node (hO251 P) BT.nil BT.nil) (BT.node (hO319 P) BT.nil BT.nil)) (BT.node (hO164 P) (BT.node (hO285 P) BT.nil BT.nil) (BT.node (hO353 P) BT.nil BT.nil)))))) (BT.node (boot_o_6 P) (BT.node (boot_o_10 P) (BT.node (hO54 P) (BT.node (hO70 P) (BT.node (hO104 P) (BT.node (hO170 P) (BT.node (hO359 P) BT.nil BT.nil) BT.nil) (BT.node (hO291 P) BT.nil BT.nil)) (BT.node (hO138 P) (BT.node (hO257 P) BT.nil BT.nil) (BT.node (hO327 P) BT.nil BT.nil))) (BT.node (hO88 P) (BT.node (hO122 P) (BT.node (hO186 P) (BT.node (hO375 P) BT.nil BT.nil) BT.nil) (BT.node (hO309 P) BT.nil BT.nil)) (BT.node (hO154 P) (BT.node (hO275 P) BT.nil BT.nil) (BT.node (hO343 P) BT.nil BT.nil)))) (BT.node (hO62 P) (BT.node (hO80 P) (BT.node (hO112 P) (BT.node (hO178 P) (BT.node (hO367 P) BT.nil BT.nil) BT.nil) (BT.node (hO301 P) BT.nil BT.nil)) (BT.node (hO146 P) (BT.node (hO265 P) BT.nil BT.nil) (BT.node (hO335 P) BT.nil BT.nil))) (BT.node (hO96 P) (BT.node (hO130 P) (BT.node (hO249 P) BT.nil BT.nil) (BT.node (hO317 P) BT.nil BT.nil)) (BT.node (hO162 P) (BT.node (hO283 P) BT.nil BT.nil) (BT.node (hO351 P) BT.nil BT.nil))))) (BT.node (hO46 P) (BT.node (hO58 P) (BT.node (hO76 P) (BT.node (hO108 P) (BT.node (hO174 P) (BT.node (hO363 P) BT.nil BT.nil) BT.nil) (BT.node (hO295 P) BT.nil BT.nil)) (BT.node (hO142 P) (BT.node (hO261 P) BT.nil BT.nil) (BT.node (hO331 P) BT.nil BT.nil))) (BT.node (hO92 P) (BT.node (hO126 P) (BT.node (hO245 P) BT.nil BT.nil) (BT.node (hO313 P) BT.nil BT.nil)) (BT.node (hO158 P) (BT.node (hO279 P) BT.nil BT.nil) (BT.node (hO347 P) BT.nil BT.nil)))) (BT.node (hO66 P) (BT.node (hO84 P) (BT.node (hO116 P) (BT.node (hO182 P) (BT.node (hO371 P) BT.nil BT.nil) BT.nil) (BT.node (hO305 P) BT.nil BT.nil)) (BT.node (hO150 P) (BT.node (hO269 P) BT.nil BT.nil) (BT.node (hO339 P) BT.nil BT.nil))) (BT.node (hO100 P) (BT.node (hO134 P) (BT.node (hO253 P) BT.nil BT.nil) (BT.node (hO323 P) BT.nil BT.nil)) (BT.node (hO166 P) (BT.node (hO287 P) BT.nil BT.nil) (BT.node (hO355 P) BT.nil BT.nil))))))))
def hT416 (P : Params) : BT := (BT.node (boot_o_0 P) (BT.node (boot_o_1 P) (BT.node (hO379 P) (BT.node (boot_o_7 P) (BT.node (hO51 P) (BT.node (hO67 P) (BT.node (hO101 P) (BT.node (hO167 P) (BT.node (hO356 P) BT.nil BT.nil) BT.nil) (BT.node (hO288 P) BT.nil BT.nil)) (BT.node (hO135 P) (BT.node (hO254 P) (BT.node (hO390 P) BT.nil BT.nil) BT.nil) (BT.node (hO324 P) BT.nil BT.nil))) (BT.node (hO85 P) (BT.node (hO119 P) (BT.node (hO183 P) (BT.node (hO372 P) BT.nil BT.nil) BT.nil) (BT.node (hO306 P) BT.nil BT.nil)) (BT.node (hO151 P) (BT.node (hO270 P) (BT.node (hO406 P) BT.nil BT.nil) BT.nil) (BT.node (hO340 P) BT.nil BT.nil)))) (BT.node (hO59 P) (BT.node (hO77 P) (BT.node (hO109 P) (BT.node (hO175 P) (BT.node (hO364 P) BT.nil BT.nil) BT.nil) (BT.node (hO296 P) BT.nil BT.nil)) (BT.node (hO143 P) (BT.node (hO262 P) (BT.node (hO398 P) BT.nil BT.nil) BT.nil) (BT.node (hO332 P) BT.nil BT.nil))) (BT.node (hO93 P) (BT.node (hO127 P) (BT.node (hO246 P) (BT.node (hO382 P) BT.nil BT.nil) BT.nil) (BT.node (hO314 P) BT.nil BT.nil)) (BT.node (hO159 P) (BT.node (hO280 P) (BT.node (hO414 P) BT.nil BT.nil) BT.nil) (BT.node (hO348 P) BT.nil BT.nil))))) (BT.node (hO43 P) (BT.node (hO55 P) (BT.node (hO71 P) (BT.node (hO105 P) (BT.node (hO171 P) (BT.node (hO360 P) BT.nil BT.nil) BT.nil) (BT.node (hO292 P) BT.nil BT.nil)) (BT.node (hO139 P) (BT.node (hO258 P) (BT.node (hO394 P) BT.nil BT.nil) BT.nil) (BT.node (hO328 P) BT.nil BT.nil))) (BT.node (hO89 P) (BT.node (hO123 P) (BT.node (hO187 P) (BT.node (hO376 P) BT.nil BT.nil) BT.nil) (BT.node (hO310 P) BT.nil BT.nil)) (BT.node (hO155 P) (BT.node (hO276 P) (BT.node (hO410 P) BT.nil BT.nil) BT.nil) (BT.node (hO344 P) BT.nil BT.nil)))) (BT.node (hO63 P) (BT.node (hO81 P) (BT.node (hO113 P) (BT.node (hO179 P) (BT.node (hO368 P) BT.nil BT.nil) BT.nil) (BT.node (hO302 P) BT.nil BT.nil)) (BT.node (hO147 P) (BT.node (hO266 P) (BT.node (hO402 P) BT.nil BT.nil) BT.nil) (BT.node (hO336 P) BT.nil BT.nil))) (BT.node (hO97 P) (BT.node (hO131 P) (BT.node (hO250 P) (BT.node (hO386 P) BT.nil BT.nil) BT.nil) (BT.node (hO318 P) BT.nil BT.nil)) (BT.node (hO163 P) (BT.node (hO284 P) BT.nil BT.nil) (BT.node (hO352 P) BT.nil BT.nil)))))) (BT.node (boot_o_5 P) (BT.node (boot_o_9 P) (BT.node (hO53 P) (BT.node (hO69 P) (BT.node (hO103 P) (BT.node (hO169 P) (BT.node (hO358 P) BT.nil BT.nil) BT.nil) (BT.node (hO290 P) BT.nil BT.nil)) (BT.node (hO137 P) (BT.node (hO256 P) (BT.node (hO392 P) BT.nil BT.nil) BT.nil) (BT.node (hO326 P) BT.nil BT.nil))) (BT.node (hO87 P) (BT.node (hO121 P) (BT.node (hO185 P) (BT.node (hO374 P) BT.nil BT.nil) BT.nil) (BT.node (hO308 P) BT.nil BT.nil)) (BT.node (hO153 P) (BT.node (hO272 P) (BT.node (hO408 P) BT.nil BT.nil) BT.nil) (BT.node (hO342 P) BT.nil BT.nil)))) (BT.node (hO61 P) (BT.node (hO79 P) (BT.node (hO111 P) (BT.node (hO177 P) (BT.node (hO366 P) BT.nil BT.nil) BT.nil) (BT.node (hO300 P) BT.nil BT.nil)) (BT.node (hO145 P) (BT.node (hO264 P) (BT.node (hO400 P) BT.nil BT.nil) BT.nil) (BT.node (hO334 P) BT.nil BT.nil))) (BT.node (hO95 P) (BT.node (hO129 P) (BT.node (hO248 P) (BT.node (hO384 P) BT.nil BT.nil) BT.nil) (BT.node (hO316 P) BT.nil BT.nil)) (BT.node (hO161 P) (BT.node (hO282 P) (BT.node (hO416 P) BT.nil BT.nil) BT.nil) (BT.node (hO350 P) BT.nil BT.nil))))) (BT.node (hO45 P) (BT.node (hO57 P) (BT.node (hO75 P) (BT.node (hO107 P) (BT.node (hO173 P) (BT.node (hO362 P) BT.nil BT.nil) BT.nil) (BT.node (hO294 P) BT.nil BT.nil)) (BT.node (hO141 P) (BT.node (hO260 P) (BT.node (hO396 P) BT.nil BT.nil) BT.nil) (BT.node (hO330 P) BT.nil BT.nil))) (BT.node (hO91 P) (BT.node (hO125 P) (BT.node (hO189 P) (BT.node (hO378 P) BT.nil BT.nil) BT.nil) (BT.node (hO312 P) BT.nil BT.nil)) (BT.node (hO157 P) (BT.node (hO278 P) (BT.node (hO412 P) BT.nil BT.nil) BT.nil) (BT.node (hO346 P) BT.nil BT.nil)))) (BT.node (hO65 P) (BT.node (hO83 P) (BT.node (hO115 P) (BT.node (hO181 P) (BT.node (hO370 P) BT.nil BT.nil) BT.nil) (BT.node (hO304 P) BT.nil BT.nil)) (BT.node (hO149 P) (BT.node (hO268 P) (BT.node (hO404 P) BT.nil BT.nil) BT.nil) (BT.node (hO338 P) BT.nil BT.nil))) (BT.node (hO99 P) (BT.node (hO133 P) (BT.node (hO252 P) (BT.node (hO388 P) BT.nil BT.nil) BT.nil) (BT.node (hO320 P) BT.nil BT.nil)) (BT.node (hO165 P) (BT.node (hO286 P) BT.nil BT.nil) (BT.node (hO354 P) BT.nil BT.nil))))))) (BT.node (boot_o_2 P) (BT.node (boot_o_4 P) (BT.node (boot_o_8 P) (BT.node (hO52 P) (BT.node (hO68 P) (BT.node (hO102 P) (BT.node (hO168 P) (BT.node (hO357 P) BT.nil BT.nil) BT.nil) (BT.node (hO289 P) BT.nil BT.nil)) (BT.node (hO136 P) (BT.node (hO255 P) (BT.node (hO391 P) BT.nil BT.nil) BT.nil) (BT.node (hO325 P) BT.nil BT.nil))) (BT.node (hO86 P) (BT.node (hO120 P) (BT.node (hO184 P) (BT.node (hO373 P) BT.nil BT.nil) BT.nil) (BT.node (hO307 P) BT.nil BT.nil)) (BT.node (hO152 P) (BT.node (hO271 P) (BT.node (hO407 P) BT.nil BT.nil) BT.nil) (BT.node (hO341 P) BT.nil BT.nil)))) (BT.node (hO60 P) (BT.node (hO78 P) (BT.node (hO110 P) (BT.node (hO176 P) (BT.node (hO365 P) BT.nil BT.nil) BT.nil) (BT.node (hO297 P) BT.nil BT.nil)) (BT.node (hO144 P) (BT.node (hO263 P) (BT.node (hO399 P) BT.nil BT.nil) BT.nil) (BT.node (hO333 P) BT.nil BT.nil))) (BT.node (hO94 P) (BT.node (hO128 P) (BT.node (hO247 P) (BT.node (hO383 P) BT.nil BT.nil) BT.nil) (BT.node (hO315 P) BT.nil BT.nil)) (BT.node (hO160 P) (BT.node (hO281 P) (BT.node (hO415 P) BT.nil BT.nil) BT.nil) (BT.node (hO349 P) BT.nil BT.nil))))) (BT.node (hO380 P) (BT.node (hO56 P) (BT.node (hO74 P) (BT.node (hO106 P) (BT.node (hO172 P) (BT.node (hO361 P) BT.nil BT.nil) BT.nil) (BT.node (hO293 P) BT.nil BT.nil)) (BT.node (hO140 P) (BT.node (hO259 P) (BT.node (hO395 P) BT.nil BT.nil) BT.nil) (BT.node (hO329 P) BT.nil BT.nil))) (BT.node (hO90 P) (BT.node (hO124 P) (BT.node (hO188 P) (BT.node (hO377 P) BT.nil BT.nil) BT.nil) (BT.node (hO311 P) BT.nil BT.nil)) (BT.node (hO156 P) (BT.node (hO277 P) (BT.node (hO411 P) BT.nil BT.nil) BT.nil) (BT.node (hO345 P) BT.nil BT.nil)))) (BT.node (hO64 P) (BT.node (hO82 P) (BT.node (hO114 P) (BT.node (hO180 P) (BT.node (hO369 P) BT.nil BT.nil) BT.nil) (BT.node (hO303 P) BT.nil BT.nil)) (BT.node (hO148 P) (BT.node (hO267 P) (BT.node (hO403 P) BT.nil BT.nil) BT.nil) (BT.node (hO337 P) BT.nil BT.nil))) (BT.node (hO98 P) (BT.node (hO132 P) (BT.node (hO251 P) (BT.node (hO387 P) BT.nil BT.nil) BT.nil) (BT.node (hO319 P) BT.nil BT.nil)) (BT.node (hO164 P) (BT.node (hO285 P) BT.nil BT.nil) (BT.node (hO353 P) BT.nil BT.nil)))))) (BT.node (boot_o_6 P) (BT.node (boot_o_10 P) (BT.node (hO54 P) (BT.node (hO70 P) (BT.node (hO104 P) (BT.node (hO170 P) (BT.node (hO359 P) BT.nil BT.nil) BT.nil) (BT.node (hO291 P) BT.nil BT.nil)) (BT.node (hO138 P) (BT.node (hO257 P) (BT.node (hO393 P) BT.nil BT.nil) BT.nil) (BT.node (hO327 P) BT.nil BT.nil))) (BT.node (hO88 P) (BT.node (hO122 P) (BT.node (hO186 P) (BT.node (hO375 P) BT.nil BT.nil) BT.nil) (BT.node (hO309 P) BT.nil BT.nil)) (BT.node (hO154 P) (BT.node (hO275 P) (BT.node (hO409 P) BT.nil BT.nil) BT.nil) (BT.node (hO343 P) BT.nil BT.nil)))) (BT.node (hO62 P) (BT.node (hO80 P) (BT.node (hO112 P) (BT.node (hO178 P) (BT.node (hO367 P) BT.nil BT.nil) BT.nil) (BT.node (hO301 P) BT.nil BT.nil)) (BT.node (hO146 P) (BT.node (hO265 P) (BT.node (hO401 P) BT.nil BT.nil) BT.nil) (BT.node (hO335 P) BT.nil BT.nil))) (BT.node (hO96 P) (BT.node (hO130 P) (BT.node (hO249 P) (BT.node (hO385 P) BT.nil BT.nil) BT.nil) (BT.node (hO317 P) BT.nil BT.nil)) (BT.node (hO162 P) (BT.node (hO283 P) BT.nil BT.nil) (BT.node (hO351 P) BT.nil BT.nil))))) (BT.node (hO46 P) (BT.node (hO58 P) (BT.node (hO76 P) (BT.node (hO108 P) (BT.node (hO174 P) (BT.node (hO363 P) BT.nil BT.nil) BT.nil) (BT.node (hO295 P) BT.nil BT.nil)) (BT.node (hO142 P) (BT.node (hO261 P) (BT.node (hO397 P) BT.nil BT.nil) BT.nil) (BT.node (hO331 P) BT.nil BT.nil))) (BT.node (hO92 P) (BT.node (hO126 P) (BT.node (hO245 P) (BT.node (hO381 P) BT.nil BT.nil) BT.nil) (BT.node (hO313 P) BT.nil BT.nil)) (BT.node (hO158 P) (BT.node (hO279 P) (BT.node (hO413 P) BT.nil BT.nil) BT.nil) (BT.node (hO347 P) BT.nil BT.nil)))) (BT.node (hO66 P) (BT.node (hO84 P) (BT.node (hO116 P) (BT.node (hO182 P) (BT.node (hO371 P) BT.nil BT.nil) BT.nil) (BT.node (hO305 P) BT.nil BT.nil)) (BT.node (hO150 P) (BT.node (hO269 P) (BT.node (hO405 P) BT.nil BT.nil) BT.nil) (BT.node (hO339 P) BT.nil BT.nil))) (BT.node (hO100 P) (BT.node (hO134 P) (BT.node (hO253 P) (BT.node (hO389 P) BT.nil BT.nil) BT.nil) (BT.node (hO323 P) BT.nil BT.nil)) (BT.node (hO166 P) (BT.node (hO287 P) BT.nil BT.nil) (BT.node (hO355 P) BT.nil BT.nil))))))))
def hH46 (P : Params) : Heap := (Heap.mk (Array.mk [(boot_o_0 P), (boot_o_1 P), (boot_o_2 P), (boot_o_3 P), (boot_o_4 P), (boot_o_5 P), (boot_o_6 P), (boot_o_7 P), (boot_o_8 P), (boot_o_9 P), (boot_o_10 P), (hO43 P), (hO44 P), (hO45 P), (hO46 P)]) (Life.mk [] [] [] 0 [] [] Bool.false #[] [] 0 Bool.false Bool.false Bool.false 0 [2000, 10, 10] Bool.false 0 Bool.true [] [] 0 Bool.false))
def hH417 (P : Params) : Heap := (Heap.mk (Array.mk [(boot_o_0 P), (boot_o_1 P), (boot_o_2 P), (hO379 P), (boot_o_4 P), (boot_o_5 P), (boot_o_6 P), (boot_o_7 P), (boot_o_8 P), (boot_o_9 P), (boot_o_10 P), (hO43 P), (hO380 P), (hO45 P), (hO46 P), (hO51 P), (hO52 P), (hO53 P), (hO54 P), (hO55 P), (hO56 P), (hO57 P), (hO58 P), (hO59 P), (hO60 P), (hO61 P), (hO62 P), (hO63 P), (hO64 P), (hO65 P), (hO66 P), (hO67 P), (hO68 P), (hO69 P), (hO70 P), (hO71 P), (hO74 P), (hO75 P), (hO76 P), (hO77 P), (hO78 P), (hO79 P), (hO80 P), (hO81 P), (hO82 P), (hO83 P), (hO84 P), (hO85 P), (hO86 P), (hO87 P), (hO88 P), (hO89 P), (hO90 P), (hO91 P), (hO92 P), (hO93 P), (hO94 P), (hO95 P), (hO96 P), (hO97 P), (hO98 P), (hO99 P), (hO100 P), (hO101 P), (hO102 P), (hO103 P), (hO104 P), (hO105 P), (hO106 P), (hO107 P), (hO108 P), (hO109 P), (hO110 P), (hO111 P), (hO112 P), (hO113 P), (hO114 P), (hO115 P), (hO116 P), (hO119 P), (hO120 P), (hO121 P), (hO122 P), (hO123 P), (hO124 P), (hO125 P), (hO126 P), (hO127 P), (hO128 P), (hO129 P), (hO130 P), (hO131 P), (hO132 P), (hO133 P), (hO134 P), (hO135 P), (hO136 P), (hO137 P), (hO138 P), (hO139 P), (hO140 P), (hO141 P), (hO142 P), (hO143 P), (hO144 P), (hO145 P), (hO146 P), (hO147 P), (hO148 P), (hO149 P), (hO150 P), (hO151 P), (hO152 P), (hO153 P), (hO154 P), (hO155 P), (hO156 P), (hO157 P), (hO158 P), (hO159 P), (hO160 P), (hO161 P), (hO162 P), (hO163 P), (hO164 P), (hO165 P), (hO166 P), (hO167 P), (hO168 P), (hO169 P), (hO170 P), (hO171 P), (hO172 P), (hO173 P), (hO174 P), (hO175 P), (hO176 P), (hO177 P), (hO178 P), (hO179 P), (hO180 P), (hO181 P), (hO182 P), (hO183 P), (hO184 P), (hO185 P), (hO186 P), (hO187 P), (hO188 P), (hO189 P), (hO245 P), (hO246 P), (hO247 P), (hO248 P), (hO249 P), (hO250 P), (hO251 P), (hO252 P), (hO253 P), (hO254 P), (hO255 P), (hO256 P), (hO257 P), (hO258 P), (hO259 P), (hO260 P), (hO261 P), (hO262 P), (hO263 P), (hO264 P), (hO265 P), (hO266 P), (hO267 P), (hO268 P), (hO269 P), (hO270 P), (hO271 P), (hO272 P), (hO275 P), (hO276 P), (hO277 P), (hO278 P), (hO279 P), (hO280 P), (hO281 P), (hO282 P), (hO283 P), (hO284 P), (hO285 P), (hO286 P), (hO287 P), (hO288 P), (hO289 P), (hO290 P), (hO291 P), (hO292 P), (hO293 P), (hO294 P), (hO295 P), (hO296 P), (hO297 P), (hO300 P), (hO301 P), (hO302 P), (hO303 P), (hO304 P), (hO305 P), (hO306 P), (hO307 P), (hO308 P), (hO309 P), (hO310 P), (hO311 P), (hO312 P), (hO313 P), (hO314 P), (hO315 P), (hO316 P), (hO317 P), (hO318 P), (hO319 P), (hO320 P), (hO323 P), (hO324 P), (hO325 P), (hO326 P), (hO327 P), (hO328 P), (hO329 P), (hO330 P), (hO331 P), (hO332 P), (hO333 P), (hO334 P), (hO335 P), (hO336 P), (hO337 P), (hO338 P), (hO339 P), (hO340 P), (hO341 P), (hO342 P), (hO343 P), (hO344 P), (hO345 P), (hO346 P), (hO347 P), (hO348 P), (hO349 P), (hO350 P), (hO351 P), (hO352 P), (hO353 P), (hO354 P), (hO355 P), (hO356 P), (hO357 P), (hO358 P), (hO359 P), (hO360 P), (hO361 P), (hO362 P), (hO363 P), (hO364 P), (hO365 P), (hO366 P), (hO367 P), (hO368 P), (hO369 P), (hO370 P), (hO371 P), (hO372 P), (hO373 P), (hO374 P), (hO375 P), (hO376 P), (hO377 P), (hO378 P), (hO381 P), (hO382 P), (hO383 P), (hO384 P), (hO385 P), (hO386 P), (hO387 P), (hO388 P), (hO389 P), (hO390 P), (hO391 P), (hO392 P), (hO393 P), (hO394 P), (hO395 P), (hO396 P), (hO397 P), (hO398 P), (hO399 P), (hO400 P), (hO401 P), (hO402 P), (hO403 P), (hO404 P), (hO405 P), (hO406 P), (hO407 P), (hO408 P), (hO409 P), (hO410 P), (hO411 P), (hO412 P), (hO413 P), (hO414 P), (hO415 P), (hO416 P)]) (Life.mk [] [] [] 0 [] [] Bool.false #[] [] 0 Bool.false Bool.false Bool.false 0 [2000, 10, 10] Bool.false 0 Bool.true [] [] 0 Bool.false))
def hEnv : Env := { scope := hP.main.scope, locals := mainNs, globals := mainNs, cells := [], code := Value.ref 13, frame := some 14 }
def hSl (i k : Nat) : List Stmt := (hP.main.body.drop i).take k
def hLife : Life := (Life.mk [] [] [] 0 [] [] false #[] [] 0 false false false 0 [2000, 10, 10] false 0 true [] [] 0 false)
def hDr : Drawn := Drawn.mk 0 0 0 0
def hPos0 : Pos := Pos.mk 0 0 0 0
def hCode : Code := Code.body (behindTheImports hP) hEnv
abbrev hSt (t : Params → BT) (n k : Nat) (w : World) (os : OsState) : SharedT := SharedT.mk (t w.params) n hLife (Array.mk []) hDr k os
abbrev hEnd (w : World) (os : OsState) : Shared := Shared.mk (hH417 w.params) (Array.mk []) hDr 624 os
def hView : Program := PySem.W.view hP [0, 2, 3, 5, 6, 7, 8, 9, 10, 12, 13, 14, 15, 16, 17]
abbrev hLoose : List Str := [Str.ofString "_tuplegetter", Str.ofString "Point", Str.ofString "Orientation"]
theorem hPre (w : World) (os : OsState) : topGo treeTable hP w 11 (some (Value.ref 6)) 12 (Shared.mk (boot_heap w.params) (Array.mk []) boot_drawn boot_toks os) (topStub hP) =
    some (Shared.mk (hH46 w.params) (Array.mk []) hDr 187 os, Thread.mk (denote treeTable hCode) hCode hPos0 [topFrame hPos0]) := by
  rw [PySem.W.Fast.te15667345088766844465, PySem.W.Fast.te14364793385576792824, PySem.W.Fast.te11892475500146522536]
  kernel_rfl
theorem hBlock (w : World) (os : OsState) : segRun treeTable hP w 11 (some (Value.ref 6)) 1 1 (Shared.mk (hH46 w.params) (Array.mk []) hDr 187 os) (blockOf (behindTheImports hP) hEnv hCode hPos0 [topFrame hPos0]) =
    some (Flow.next, (hSt hT47 15 187 w os).abs, hCode, hPos0) := by
  rw [PySem.W.Fast.te14374325043358763698, PySem.W.Fast.te14364793385576792824]
  kernel_rfl
theorem hPc0 (w : World) (os : OsState) : segRunT treeTable hP w 11 (some (Value.ref 6)) 1 110 (hSt hT47 15 187 w os) (piecesOf (hSl 0 5) hEnv hCode hPos0 [topFrame hPos0]) =
    some (Flow.next, hSt hT71 36 216 w os, hCode, (Pos.mk 11 0 11 8)) := by
  rw [PySem.W.Fast.te10110043849684766642, PySem.W.Fast.te14364793385576792824]
  kernel_rfl
theorem hPc1 (w : World) (os : OsState) : segRunT treeTable hP w 11 (some (Value.ref 6)) 1 324 (hSt hT71 36 216 w os) (piecesOf (hSl 5 1) hEnv hCode (Pos.mk 11 0 11 8) [topFrame hPos0]) =
    some (Flow.next, hSt hT116 79 273 w os, hCode, (Pos.mk 12 0 29 54)) := by
  rw [PySem.W.Fast.te10110043849684766642, PySem.W.Fast.te14364793385576792824]
  kernel_rfl
theorem hPc2 (w : World) (os : OsState) : segRunT treeTable hP w 11 (some (Value.ref 6)) 1 900 (hSt hT116 79 273 w os) (piecesOf (hSl 6 1) hEnv hCode (Pos.mk 12 0 29 54) [topFrame hPos0]) =
    some (Flow.next, hSt hT189 150 388 w os, hCode, (Pos.mk 30 0 71 51)) := by
  rw [PySem.W.Fast.te10110043849684766642, PySem.W.Fast.te14364793385576792824]
  kernel_rfl
theorem hPc3 (w : World) (os : OsState) : segRunT treeTable hP w 11 (some (Value.ref 6)) 1 258 (hSt hT189 150 388 w os) (piecesOf (hSl 7 1) hEnv hCode (Pos.mk 30 0 71 51) [topFrame hPos0]) =
    some (Flow.next, hSt hT272 178 426 w os, hCode, (Pos.mk 72 0 79 30)) := by
  rw [PySem.W.Fast.te10110043849684766642, PySem.W.Fast.te14364793385576792824]
  kernel_rfl
theorem hPc4 (w : World) (os : OsState) : segRunT treeTable hP w 11 (some (Value.ref 6)) 1 525 (hSt hT272 178 426 w os) (piecesOf (hSl 8 1) hEnv hCode (Pos.mk 72 0 79 30) [topFrame hPos0]) =
    some (Flow.next, hSt hT297 201 465 w os, hCode, (Pos.mk 80 0 83 30)) := by
  rw [PySem.W.Fast.te10110043849684766642, PySem.W.Fast.te14364793385576792824]
  kernel_rfl
theorem hPc5 (w : World) (os : OsState) : segRunT treeTable hP w 11 (some (Value.ref 6)) 1 223 (hSt hT297 201 465 w os) (piecesOf (hSl 9 1) hEnv hCode (Pos.mk 80 0 83 30) [topFrame hPos0]) =
    some (Flow.next, hSt hT320 222 494 w os, hCode, (Pos.mk 84 0 87 32)) := by
  rw [PySem.W.Fast.te10110043849684766642, PySem.W.Fast.te14364793385576792824]
  kernel_rfl
theorem hPc6 (w : World) (os : OsState) : segRunT treeTable hP w 11 (some (Value.ref 6)) 1 394 (hSt hT320 222 494 w os) (piecesOf (hSl 10 1) hEnv hCode (Pos.mk 84 0 87 32) [topFrame hPos0]) =
    some (Flow.next, hSt hT378 278 572 w os, hCode, (Pos.mk 88 0 113 16)) := by
  rw [PySem.W.Fast.te10110043849684766642, PySem.W.Fast.te14364793385576792824]
  kernel_rfl
theorem hPc7 (w : World) (os : OsState) : segRunT treeTable hP w 11 (some (Value.ref 6)) 1 186 (hSt hT378 278 572 w os) (piecesOf (hSl 11 7) hEnv hCode (Pos.mk 88 0 113 16) [topFrame hPos0]) =
    some (Flow.next, hSt hT416 314 624 w os, hCode, (Pos.mk 151 0 170 88)) := by
  rw [PySem.W.Fast.te10110043849684766642, PySem.W.Fast.te14364793385576792824]
  kernel_rfl
theorem hFin (w : World) (os : OsState) : topRun treeTable hP w 11 (some (Value.ref 6)) 2 (hSt hT416 314 624 w os).abs (restOf [] hEnv hCode (Pos.mk 151 0 170 88) [topFrame hPos0]) = some (hEnd w os) := by
  rw [PySem.W.Fast.te14082659384304107361, PySem.W.Fast.te14364793385576792824]
  kernel_rfl
theorem hCut : behindTheImports hP = hSl 0 5 ++ (hSl 5 1 ++ (hSl 6 1 ++ (hSl 7 1 ++ (hSl 8 1 ++ (hSl 9 1 ++ (hSl 10 1 ++ (hSl 11 7 ++ []))))))) := by kernel_rfl
theorem hRun (w : World) (os : OsState) : topRun treeTable hP w 11 (some (Value.ref 6)) (12 + (1 + (110 + (324 + (900 + (258 + (525 + (223 + (394 + (186 + 2)))))))))) (Shared.mk (boot_heap w.params) (Array.mk []) boot_drawn boot_toks os) (topStub hP) = some (hEnd w os) := by
  refine go_top (hPre w os) (piece_block (hBlock w os) ?_)
  have e : restOf (behindTheImports hP) hEnv hCode hPos0 [topFrame hPos0] = restOf (hSl 0 5 ++ (hSl 5 1 ++ (hSl 6 1 ++ (hSl 7 1 ++ (hSl 8 1 ++ (hSl 9 1 ++ (hSl 10 1 ++ (hSl 11 7 ++ [])))))))) hEnv hCode hPos0 [topFrame hPos0] := congrArg (fun l => restOf l hEnv hCode hPos0 [topFrame hPos0]) hCut
  rw [e]
  exact piece_app (segRun_of (hPc0 w os)) (piece_app (segRun_of (hPc1 w os)) (piece_app (segRun_of (hPc2 w os)) (piece_app (segRun_of (hPc3 w os)) (piece_app (segRun_of (hPc4 w os)) (piece_app (segRun_of (hPc5 w os)) (piece_app (segRun_of (hPc6 w os)) (piece_app (segRun_of (hPc7 w os)) (hFin w os))))))))
theorem hOpen (w : World) : Option.map (fun s => (s.heap, s.gens, s.drawn, s.toks)) (fencedOpening treeTable hP w 5950) = some (boot_heap w.params, Array.mk [], boot_drawn, boot_toks) :=
  boot_open (p := hP) (N := 5950) (by kernel_rfl) (by decide) (fun s => by kernel_rfl) w
theorem hSize (w : World) : ((boot_heap w.params).isNs mainGlobals && (Array.mk [] : Array GenState).size == 0, (boot_heap w.params).objs.size, (boot_heap w.params).nsMap mainGlobals (Str.ofString "__annotations__")) = (true, 11, some (Value.ref 6)) := by
  rw [PySem.W.Fast.te8920871248978507458]
  kernel_rfl
theorem hLkA (w : World) (os : OsState) : (staticsOk (importedModules hP.main.body) (boot_heap w.params) (hH417 w.params) && namesBound hP (hH417 w.params) && gensDone (hEnd w os) && laidKept (boot_heap w.params) (hH417 w.params)) = true := by
  rw [PySem.W.Fast.te5923862056798008813]
  kernel_rfl
theorem hLkB (w : World) (os : OsState) : openSeen hView hLoose (importedModules hP.main.body) (fun s => xlAt hView [] s && recOk PySem.Challenge.rw_ja0044_01.row.records s) true (hEnd w os) = openGood hView hLoose := by
  rw [PySem.W.Fast.te4187177175401517315, PySem.W.Fast.te5923862056798008813]
  kernel_rfl
theorem hLeft {α : Type} {Yf : Shared → α} {Ya : World → α} (h : ∀ (w : World) (os : OsState), Yf (hEnd w os) = Ya w) : LeftO hP hView hLoose (fun s => xlAt hView [] s && recOk PySem.Challenge.rw_ja0044_01.row.records s) Yf Ya 5950 true :=
  LeftO.of_pieces (H₀ := boot_heap) (H₁ := hH417) (gs₀ := Array.mk []) (gs₁ := Array.mk []) (d₀ := boot_drawn) (d₁ := hDr) (k₀ := boot_toks) (k₁ := 624) (m₀ := 11) (ann := some (Value.ref 6)) (M := 12 + (1 + (110 + (324 + (900 + (258 + (525 + (223 + (394 + (186 + 2))))))))))
    hOpen hSize hRun (by decide) (fun w => funext fun os => looks_pair (hLkA w os) (looks_pair (hLkB w os) (h w os)))
end
end Mine
end
section
open PySem PySem.W PyProof.Rows
set_option Elab.async false
set_option maxRecDepth 100000
set_option maxHeartbeats 8000000
namespace Mine
theorem hSaid : OpenLaw.wellSaid PySem.Challenge.rw_ja0044_01 = true := by
  rw [PySem.W.Fast.te9446332074065402090]
  kernel_rfl
local macro_rules | `(tactic| o_law) => `(tactic| refine holds_law hSaid fun _ => ?_)
local macro_rules | `(tactic| o_head $H) => do
  let hw := Lean.mkIdent `hw
  let hc := Lean.mkIdent `hc
  `(tactic| (refine holds_open (q := hView) (loose := hLoose) (Xt := fun s => xlAt hView [] s && recOk (RowW.records PySem.Challenge.rw_ja0044_01.row.toRowW) s) (XP := XL hView []) (Yf := Hook.obs $H) (Ya := Hook.val $H) (YP := Hook.says $H) (N := 5950) ?hl (Hook.of $H) (Hook.keeps $H) (fun s e => xl_of s (Bool.and_eq_true_iff.mp e).1) XL.keeps (by rfl) (by rfl) (by rfl) (fun s e => recFacts_of (Bool.and_eq_true_iff.mp e).2) (by rfl) (by first | assumption | decide +kernel) (by decide +kernel) ⟨rfl, rfl, rfl, rfl, rfl, by decide +kernel⟩ ?$hw ?$hc; (case hl => exact hLeft (fun w os => by kernel_rfl))))
open_top hd for PySem.Challenge.rw_ja0044_01
end Mine
end
theorem Mine.top_off : True := by
  w_top off
  trivial
local macro_rules | `(tactic| walk_at $s:str) => `(tactic| k_extra $s)
section
open PySem PySem.W PyProof.Rows
set_option Elab.async false
set_option maxRecDepth 100000
namespace Mine
open AutoSeq1 (wpAny_loadPart')
open MeetsSeq MeetsSeq2 MeetsSeq3 SeqRoads2 PySem.SeqAt
def lexle (x1 y1 x2 y2 : Int) : Bool := decide (x1 < x2 ∨ (x1 = x2 ∧ y1 ≤ y2))
def lexlt (x1 y1 x2 y2 : Int) : Bool := decide (x1 < x2 ∨ (x1 = x2 ∧ y1 < y2))
def IntPairs : List (Value × Value) → Prop
  | [] => True
  | (.int _ _, .int _ _) :: r => IntPairs r
  | _ => False
def lexV (e : Bool) : List (Value × Value) → Bool
  | [] => e
  | (.int x _, .int y _) :: r => if x == y then lexV e r else decide (x < y)
  | _ => false
theorem rc_le {prog : Program} {w : World} {A : Around} {E : Value → Shared → Prop} {s : Shared} {a b : Int} {t u : Tok} {Q : Value → Shared → Prop} (h : Q (.bool (decide (a ≤ b))) s) : wpAny (model prog w) A (richCompare .LtE (.int a t) (.int b u)) Q E s := P.le_int h
theorem rc_lt {prog : Program} {w : World} {A : Around} {E : Value → Shared → Prop} {s : Shared} {a b : Int} {t u : Tok} {Q : Value → Shared → Prop} (h : Q (.bool (decide (a < b))) s) : wpAny (model prog w) A (richCompare .Lt (.int a t) (.int b u)) Q E s := P.lt_int h
set_option maxHeartbeats 4000000 in
theorem tup_le_meets (l b : Addr) (items items2 : Array Value) (n n2 : Nat) (hi : IntPairs (items.toList.zip items2.toList)) :
    Meets (Builtin.«tuple.__le__» ⟨[.ref l, .ref b], []⟩)
      (fun _ R s => s.heap.get? l = some { cls := .type "tuple", data := .seq items n } ∧ s.heap.get? b = some { cls := .type "tuple", data := .seq items2 n2 } ∧
        R (.ok (.ret (.bool (lexV (decide (items.size ≤ items2.size)) (items.toList.zip items2.toList))))) s) :=
  .of_wp fun prog w A R s h => by
    obtain ⟨hp, g, d, tk, os⟩ := s; obtain ⟨hl, hb, h⟩ := h
    have f2 := AutoSeq1.sub_tuple_tuple
    wp_walk using wpAny_loadPart' hl, wpAny_loadPart' hb, wpAny_forIn_list _ (fun rest b s' => b.1 = none ∧ s' = ⟨hp, g, d, tk, os⟩ ∧ IntPairs rest ∧
      R (.ok (.ret (.bool (lexV (decide (items.size ≤ items2.size)) rest)))) ⟨hp, g, d, tk, os⟩) _
    case turn =>
      rintro ⟨y, x⟩ rest b s' ⟨hb', rfl, hz, hR⟩
      cases y <;> first | exact hz.elim | skip
      cases x <;> first | exact hz.elim | skip
      rename_i a t c u
      refine wpAny_bind (wpAny_eqBool_int ?_)
      unfold lexV at hR
      cases hy : (a == c) with
      | true =>
        rw [hy] at hR
        exact wpAny_pure ⟨rfl, rfl, hz, hR⟩
      | false =>
        rw [hy] at hR
        have e : decide (a ≤ c) = decide (a < c) := by
          have : a ≠ c := by simpa using hy
          congr 1; exact propext ⟨by omega, by omega⟩
        refine wpAny_bind (wpAny_rule (wpAny_bind (rc_le (wpAny_bind (wpAny_pure (wpAny_pure ?_))))))
        exact wpAny_pure ⟨_, rfl, by rw [e]; exact hR⟩
    case fin =>
      rintro ⟨b1, b2⟩ s' ⟨hb', rfl, hz, hR⟩
      simp only at hb'
      subst hb'
      exact wpAny_pure ⟨_, rfl, hR⟩
    case h => exact ⟨rfl, rfl, hi, h⟩
set_option maxHeartbeats 4000000 in
theorem tup_lt_meets (l b : Addr) (items items2 : Array Value) (n n2 : Nat) (hi : IntPairs (items.toList.zip items2.toList)) :
    Meets (Builtin.«tuple.__lt__» ⟨[.ref l, .ref b], []⟩)
      (fun _ R s => s.heap.get? l = some { cls := .type "tuple", data := .seq items n } ∧ s.heap.get? b = some { cls := .type "tuple", data := .seq items2 n2 } ∧
        R (.ok (.ret (.bool (lexV (decide (items.size < items2.size)) (items.toList.zip items2.toList))))) s) :=
  .of_wp fun prog w A R s h => by
    obtain ⟨hp, g, d, tk, os⟩ := s; obtain ⟨hl, hb, h⟩ := h
    have f2 := AutoSeq1.sub_tuple_tuple
    wp_walk using wpAny_loadPart' hl, wpAny_loadPart' hb, wpAny_forIn_list _ (fun rest b s' => b.1 = none ∧ s' = ⟨hp, g, d, tk, os⟩ ∧ IntPairs rest ∧
      R (.ok (.ret (.bool (lexV (decide (items.size < items2.size)) rest)))) ⟨hp, g, d, tk, os⟩) _
    case turn =>
      rintro ⟨y, x⟩ rest b s' ⟨hb', rfl, hz, hR⟩
      cases y <;> first | exact hz.elim | skip
      cases x <;> first | exact hz.elim | skip
      rename_i a t c u
      refine wpAny_bind (wpAny_eqBool_int ?_)
      unfold lexV at hR
      cases hy : (a == c) with
      | true =>
        rw [hy] at hR
        exact wpAny_pure ⟨rfl, rfl, hz, hR⟩
      | false =>
        rw [hy] at hR
        refine wpAny_bind (wpAny_rule (wpAny_bind (rc_lt (wpAny_bind (wpAny_pure (wpAny_pure ?_))))))
        exact wpAny_pure ⟨_, rfl, hR⟩
    case fin =>
      rintro ⟨b1, b2⟩ s' ⟨hb', rfl, hz, hR⟩
      simp only at hb'
      subst hb'
      exact wpAny_pure ⟨_, rfl, hR⟩
    case h => exact ⟨rfl, rfl, hi, h⟩
def ptO (x y : Int) (t u : Tok) (n : Nat) : Obj := { cls := .type "tuple", data := .seq #[.int x t, .int y u] n }
section
variable {prog : Program} {w : World} {A : Around} {E : Value → Shared → Prop} {s : Shared} {l b : Addr} {x1 y1 x2 y2 : Int} {t1 t2 t3 t4 : Tok} {n n2 : Nat} {Q : Value → Shared → Prop}
theorem lexV_le : lexV (decide ((#[Value.int x1 t1, Value.int y1 t2] : Array Value).size ≤ (#[Value.int x2 t3, Value.int y2 t4] : Array Value).size)) ((#[Value.int x1 t1, Value.int y1 t2] : Array Value).toList.zip (#[Value.int x2 t3, Value.int y2 t4] : Array Value).toList) = lexle x1 y1 x2 y2 := by
  simp only [List.zip_cons_cons, List.zip_nil_right, lexV, lexle]
  by_cases hx : x1 = x2 <;> by_cases hy : y1 = y2 <;> simp [hx, hy] <;> omega
theorem lexV_lt : lexV (decide ((#[Value.int x1 t1, Value.int y1 t2] : Array Value).size < (#[Value.int x2 t3, Value.int y2 t4] : Array Value).size)) ((#[Value.int x1 t1, Value.int y1 t2] : Array Value).toList.zip (#[Value.int x2 t3, Value.int y2 t4] : Array Value).toList) = lexlt x1 y1 x2 y2 := by
  simp only [List.zip_cons_cons, List.zip_nil_right, lexV, lexlt]
  by_cases hx : x1 = x2 <;> by_cases hy : y1 = y2 <;> simp [hx, hy]
theorem pair_le (hl : s.heap.get? l = some { cls := .type "tuple", data := .seq #[.int x1 t1, .int y1 t2] n }) (hb : s.heap.get? b = some { cls := .type "tuple", data := .seq #[.int x2 t3, .int y2 t4] n2 }) (hu : A.units < cLine)
    (h : Q (.bool (lexle x1 y1 x2 y2)) s) : wpAny (model prog w) A (compareOp .LtE (.ref l) (.ref b)) Q E s := by
  rw [← lexV_le (t1 := t1) (t2 := t2) (t3 := t3) (t4 := t4)] at h
  exact richCompare_meets_room (op := .LtE) ⟨_, hl, rfl⟩ ⟨_, hb, rfl⟩ F.slot_tuple_le F.entry_tuple_le (F.args_tuple_le_2 _ _) (tup_le_meets l b #[.int x1 t1, .int y1 t2] #[.int x2 t3, .int y2 t4] n n2 trivial) ⟨hl, hb, ⟨(fun x => nomatch x), h⟩⟩ hu
theorem pair_lt (hl : s.heap.get? l = some { cls := .type "tuple", data := .seq #[.int x1 t1, .int y1 t2] n }) (hb : s.heap.get? b = some { cls := .type "tuple", data := .seq #[.int x2 t3, .int y2 t4] n2 }) (hu : A.units < cLine)
    (h : Q (.bool (lexlt x1 y1 x2 y2)) s) : wpAny (model prog w) A (compareOp .Lt (.ref l) (.ref b)) Q E s := by
  rw [← lexV_lt (t1 := t1) (t2 := t2) (t3 := t3) (t4 := t4)] at h
  exact richCompare_meets_room (op := .Lt) ⟨_, hl, rfl⟩ ⟨_, hb, rfl⟩ F.slot_tuple_lt F.entry_tuple_lt (F.args_tuple_lt_2 _ _) (tup_lt_meets l b #[.int x1 t1, .int y1 t2] #[.int x2 t3, .int y2 t4] n n2 trivial) ⟨hl, hb, ⟨(fun x => nomatch x), h⟩⟩ hu
end
end Mine
end
section
open PySem PySem.W PyProof.Rows
set_option Elab.async false
set_option maxRecDepth 100000
namespace Mine
abbrev tup (vs : List Value) (n : Nat) : Obj := { cls := .type "tuple", data := .seq vs.toArray n }
def crs (x1 y1 x2 y2 x3 y3 : Int) : Int := (x2 - x1) * (y3 - y1) - (y2 - y1) * (x3 - x1)
def sg (v : Int) : Int := if v > 0 then 1 else if v < 0 then -1 else 0
theorem sg_a {v : Int} (h : v > 0) : 1 = sg v := by unfold sg; rw [if_pos h]
theorem sg_b {v : Int} (h : ¬ v > 0) (h' : v < 0) : -1 = sg v := by unfold sg; rw [if_neg h, if_pos h']
theorem sg_c {v : Int} (h : ¬ v > 0) (h' : ¬ v < 0) : 0 = sg v := by unfold sg; rw [if_neg h, if_neg h']
set_option maxHeartbeats 8000000 in
theorem side_ok {w : World} {p : Program} {loose : List Str} {mean : ExcName → Option Value} {mg mb : Str → Option Value}
  {dp un : Nat} {gd : Option (List Code)} {cn : Str} {cs : Scope} {la : Addr} {ccd : Value} {cl : List (Str × Addr)} {outer : List Env} {A₀ : Around} {base h₀ : Heap} {L : Addr} {m : Str → Option Value} {s : Shared} {Q E : Value → Shared → Prop}
  {rest : List (Addr × Obj)} {o a b q : Addr} {x1 y1 x2 y2 x3 y3 : Int} {t1 t2 t3 t4 t5 t6 : Tok} {n1 n2 n3 n4 : Nat}
  (B : Below A₀ base outer h₀) (F : Fr h₀ L s.heap m) (X : (Mine.hd.heap_1 w.params).In h₀)
  (N : News h₀ L s.heap ((o, tup [.ref a, .ref b] n1) :: (a, tup [.int x1 t1, .int y1 t2] n2) :: (b, tup [.int x2 t3, .int y2 t4] n3) :: (q, tup [.int x3 t5, .int y3 t6] n4) :: rest))
  (T : Top p loose mean mg mb h₀) (hk : cs.kind = .function) (hd : dp + 1 < recursionLimit) (hu : un + 8 < cLine)
  (b1 : 0 ≤ x1 ∧ x1 ≤ 4) (b2 : 0 ≤ y1 ∧ y1 ≤ 4) (b3 : 0 ≤ x2 ∧ x2 ≤ 4) (b4 : 0 ≤ y2 ∧ y2 ≤ 4) (b5 : 0 ≤ x3 ∧ x3 ≤ 4) (b6 : 0 ≤ y3 ∧ y3 ≤ 4)
  (hret : ∀ t h' tk', Fr h₀ L h' m → News h₀ L h' rest → Q (.int (sg (crs x1 y1 x2 y2 x3 y3)) t) { s with heap := h', toks := tk' }) :
  wpAny (model PySem.Challenge.rw_ja0044_01.row.prog w) (ktrTop dp un gd cn cs L la ccd cl outer) (call (.ref 284) [.ref o, .ref q]) Q E s := by
  revert X; k_fill; intro X
  refine wpAny_call ?_
  k_dflt cell_enter
  k_steps
  all_goals exact cb_retI (Q := Q) hret (by first | exact sg_a (by assumption) | exact sg_b (by assumption) (by assumption) | exact sg_c (by assumption) (by assumption)) (by k_asm) (cb_drop (by assumption) (fun p hp => by simp only [List.mem_cons, hp, or_true]))
end Mine
end
section
open PySem PySem.W PyProof.Rows PySem.Calls PySem.Spec
set_option Elab.async false
set_option maxRecDepth 100000
namespace Mine
open LCg LCt
def pick2 (c0 c1 : Bool) (v0 v1 : Value) : List Value := (if c0 then [v0] else []) ++ (if c1 then [v1] else [])
section
variable {prog : Program} {w : World} {A : Around} {E : Value → Shared → Prop} {s : Shared} {h₀ : Heap} {L : Addr} {m : Str → Option Value} {env : Env}
/-- the test of a filter: at the element v it answers b, keeping frame and ledger -/
def TestAt (prog : Program) (w : World) (A : Around) (h₀ : Heap) (L : Addr) (m : Str → Option Value) (env : Env) (ct : Expr) (x : Str) (scope : Scope) (cl : List (Str × Addr)) (s : Shared) (news : List (Addr × Obj)) (v : Value) (b : Bool) : Prop :=
  ∀ (I : Addr) (oI : Obj) (C : Addr) (oC : Obj) (D : Addr) (oD : Obj) (m₂ : Str → Option Value) (h : Heap) (tk : Nat) (Q : Bool → Shared → Prop) (E : Value → Shared → Prop), NsObj oC m₂ → m₂ x = some v → Fr h₀ L h m → News h₀ L h ((I, oI) :: (C, oC) :: (D, oD) :: news) →
    (∀ h' tk', Fr h₀ L h' m → News h₀ L h' ((I, oI) :: (C, oC) :: (D, oD) :: news) → Q b { s with heap := h', toks := tk' }) →
    wpAny (model prog w) A (isTrue ct (compEnvC scope cl C env) (eval ct (compEnvC scope cl C env))) Q E { s with heap := h, toks := tk }
theorem name_comp {C : Addr} {oC : Obj} {scope : Scope} {cl : List (Str × Addr)} {x : Str} {pos : Pos} {v : Value} {Q : Value → Shared → Prop} {m₂ : Str → Option Value} (hC : NsObj oC m₂) (hx : m₂ x = some v) (g : s.heap.get? C = some oC)
    (hk : (compEnvC scope cl C env).scope.kind = .function) (hl : scope.names.lookup x = some .local) (h : Q v s)
    (hb : (x == ("__debug__" : Str)) = false) : wpAny (model prog w) A (eval (.Name x pos) (compEnvC scope cl C env)) Q E s :=
  wpAny_Name (wpAny_loadName_local hk (lookup_relabel_local hl) (hC.ns g) hx h) hb
def Comp2Post (prog : Program) (w : World) (A : Around) (h₀ : Heap) (L : Addr) (m : Str → Option Value) (env : Env) (ct : Expr) (x : Str) (scope : Scope) (cl : List (Str × Addr)) (c0 c1 : Bool) (Q : Value → Shared → Prop) (xv : Value) (s₁ : Shared) : Prop :=
  ∃ ax v0 v1 n news, xv = .ref ax ∧ Fr h₀ L s₁.heap m ∧ News h₀ L s₁.heap news ∧ (ax, tup [v0, v1] n) ∈ news ∧
      TestAt prog w A h₀ L m env ct x scope cl s₁ news v0 c0 ∧ TestAt prog w A h₀ L m env ct x scope cl s₁ news v1 c1 ∧
      ∀ D h tk, Fr h₀ L h m → News h₀ L h ((D, lst (pick2 c0 c1 v0 v1)) :: news) → Off1 D news → Q (.ref D) { s₁ with heap := h, toks := tk }
theorem comp2 {ct iter : Expr} {x : Str} {px px' : Pos} {scope : Scope} {cl : List (Str × Addr)} {pos : Pos} {Q : Value → Shared → Prop} (c0 c1 : Bool) (_F₀ : Fr h₀ L s.heap m)
    (hclos : closureFor scope env = pure cl) (hcell : ∀ y ∈ scope.names, y.2 ≠ .cell) (hkind : scope.kind = .function)
    (hnames : ∀ y ∈ scope.names, y.2 = .local → scope.names.lookup y.1 = some .local) (hx : scope.names.lookup x = some .local) (hb : (x == ("__debug__" : Str)) = false) (hh : A.handled = none)
    (h : wpAny (model prog w) A (eval iter env) (Comp2Post prog w A h₀ L m env ct x scope cl c0 c1 Q) E s)
    (hs : ∀ x, foldedSetIterable iter env x = pure x := by intro _; rfl) :
    wpAny (model prog w) A (eval (.ListComp (.Name x px') [⟨.Name x px, iter, [ct], 0⟩] scope pos) env) Q E s := by
  rw [eval_ListComp]
  refine wpAny_comprehension_free (use := none) rfl hs hclos hkind hnames (wpAny_mono h (fun xv s₁ h₁ => ?_) fun _ _ e => e)
  obtain ⟨ax, v0, v1, n, news, rfl, F, N, hm, T0, T1, k⟩ := h₁
  have ht : s₁.heap.IsTuple ax #[v0, v1] := ⟨_, (N _ hm).1, rfl, _, rfl⟩
  have hlt : ax < s₁.heap.objs.size := Heap.lt_size (N _ hm).1
  refine wpAny_pyIter_tuple ht ?_
  have up : ∀ b o, s₁.heap.get? b = some o → (s₁.heap.push { cls := .type "tuple_iterator", data := .fields #[.ref ax, .int 0 0] }).get? b = some o := fun b o e => Heap.get?_push_of_some _ e
  refine block_T (S := fun nw => nw = news) (Fin := fun ys nw => ys = pick2 c0 c1 v0 v1 ∧ nw = news) (Walks.tuple hh s₁.heap.objs.size ax (Nat.ne_of_lt hlt) #[v0, v1]) (show 2 ≤ sizeLine by decide) (fun i h st => by obtain ⟨o, e, _⟩ := st.1; exact ⟨o, e⟩)
    (fun i h h' o nw st e e' _ N' S' => ⟨by obtain ⟨o', q, r⟩ := st.1; rw [e] at q; cases q; exact ⟨o, e', r⟩, by subst S'; exact ⟨_, (N' _ hm).1, rfl, _, rfl⟩⟩)
    hcell hkind hx ⟨⟨_, Heap.get?_push_size _ rfl, rfl, rfl⟩, ht.push _⟩ (fun b hb => ?_)
    (F.keeps up) (N.grown up) (Nat.ne_of_lt F.ns.lt) (next_is_new F) (fun p hp => Nat.ne_of_lt (Heap.lt_size (N p hp).1)) rfl ?_ ?_
  · show b < (s₁.heap.push _).objs.size
    rw [Heap.size_push]
    rcases List.mem_cons.mp hb with rfl | hb
    · exact Nat.lt_succ_self _
    · rw [List.mem_singleton.mp hb]; exact Nat.lt_succ_of_lt hlt
  · -- the two turns
    show CompRestT prog w A h₀ L m env ct (.Name x px') x scope cl _ _ _ _ 2 0 [] news
    have fin2 : ∀ ys, ys = pick2 c0 c1 v0 v1 → CompRestT prog w A h₀ L m env ct (.Name x px') x scope cl { s₁ with heap := s₁.heap.push { cls := .type "tuple_iterator", data := .fields #[.ref ax, .int 0 0] } } (fun nw => nw = news) (fun i v => (#[v0, v1] : Array Value)[i]? = some v) (fun ys nw => ys = pick2 c0 c1 v0 v1 ∧ nw = news) 0 2 ys news :=
      fun ys e => .zero ⟨e, rfl⟩
    have turn1 : ∀ ys, ys = (if c0 then [v0] else []) → CompRestT prog w A h₀ L m env ct (.Name x px') x scope cl { s₁ with heap := s₁.heap.push { cls := .type "tuple_iterator", data := .fields #[.ref ax, .int 0 0] } } (fun nw => nw = news) (fun i v => (#[v0, v1] : Array Value)[i]? = some v) (fun ys nw => ys = pick2 c0 c1 v0 v1 ∧ nw = news) 1 1 ys news := by
      rintro ys rfl
      refine .succ fun v I oI C oC D m₂ h tk E' hv hC hx' F' N' off ne => ?_
      have hv' : v1 = v := by simpa using hv
      subst hv'
      refine T1 I oI C oC D _ m₂ h tk _ _ hC hx' F' N' fun h' tk' F₂ N₂ => ?_
      cases c1 with
      | true =>
        simp only [if_true]
        exact name_comp hC hx' (N₂.get (.tail _ (.head _))) hkind hx ⟨h', tk', news, rfl, F₂, N₂, off, rfl, fin2 _ rfl⟩ hb
      | false =>
        simp only [Bool.false_eq_true, if_false]
        exact ⟨h', tk', news, rfl, F₂, N₂, off, rfl, fin2 _ (by simp [pick2])⟩
    refine .succ fun v I oI C oC D m₂ h tk E' hv hC hx' F' N' off ne => ?_
    have hv' : v0 = v := by simpa using hv
    subst hv'
    refine T0 I oI C oC D _ m₂ h tk _ _ hC hx' F' N' fun h' tk' F₂ N₂ => ?_
    cases c0 with
    | true =>
      simp only [if_true]
      exact name_comp hC hx' (N₂.get (.tail _ (.head _))) hkind hx ⟨h', tk', news, rfl, F₂, N₂, off, rfl, turn1 _ rfl⟩ hb
    | false =>
      simp only [Bool.false_eq_true, if_false]
      exact ⟨h', tk', news, rfl, F₂, N₂, off, rfl, turn1 _ rfl⟩
  · rintro D C h tk m' ys news' F' N' o1 hn hC₀ hD₀ hCL hDL hCD offC ⟨rfl, rfl⟩
    refine ⟨m', hn, fun h'' hs'' => k D h'' tk (F'.change hs'' hCL hC₀) (fun p hp => ?_) o1⟩
    refine ⟨hs''.extBut _ _ ?_ (N' p hp).1, (N' p hp).2⟩
    rcases List.mem_cons.mp hp with rfl | hp
    · exact Ne.symm hCD
    · exact offC p hp
end
end Mine
end
section
open PySem PySem.W PyProof.Rows PySem.Calls PySem.Spec
set_option Elab.async false
set_option maxRecDepth 100000
namespace Mine
open LCg
theorem Off1.mem {D : Addr} {l : List (Addr × Obj)} (x : Off1 D l) : ∀ p ∈ l, p.1 ≠ D := by
  induction l with
  | nil => exact fun _ h => nomatch h
  | cons q r ih =>
    intro p h
    rcases List.mem_cons.mp h with rfl | h
    · exact x.1
    · exact ih x.2 p h
theorem Off1.of {D : Addr} {l : List (Addr × Obj)} (h : ∀ p ∈ l, p.1 ≠ D) : Off1 D l := by
  induction l with
  | nil => exact trivial
  | cons q r ih => exact ⟨h _ (.head _), ih fun p hp => h p (.tail _ hp)⟩
def TurnNext {σ : Type} (h₀ : Heap) (L : Addr) (Led : σ → List (Addr × Obj)) (Inv' : σ → Prop) (I : Addr) (oI : Obj) (s₁ s₃ : Shared) : Prop :=
  ∃ h' tk' m' c', s₃ = { s₁ with heap := h', toks := tk' } ∧ Inv' c' ∧ Fr h₀ L h' m' ∧ News h₀ L h' ((I, oI) :: Led c') ∧ Off1 I (Led c')
def TurnEnd {σ : Type} (h₀ : Heap) (L : Addr) (Led : σ → List (Addr × Obj)) (Inv' : σ → Prop) (I : Addr) (oI : Obj) (s₁ : Shared) (Q : Flow → Shared → Prop) (f : Flow) (s₃ : Shared) : Prop :=
  match f with
  | .ret v => Q (.ret v) s₃
  | .brk => Q .next s₃
  | _ => TurnNext h₀ L Led Inv' I oI s₁ s₃
def ForPost {σ : Type} (prog : Program) (w : World) (A : Around) (h₀ : Heap) (L : Addr) (env : Env) (target : Expr) (body : List Stmt) (n : Nat) (Led : σ → List (Addr × Obj)) (Inv : Nat → σ → Prop) (Q : Flow → Shared → Prop) (xv : Value) (s₁ : Shared) : Prop :=
  ∃ m₀ c₀ r t u v, xv = .ref r ∧ IsRange s₁.heap r 0 n 1 t u v ∧ n < 2 ^ 61 ∧ Fr h₀ L s₁.heap m₀ ∧ News h₀ L s₁.heap (Led c₀) ∧ Inv 0 c₀ ∧
    (∀ (i : Nat) (c : σ) m I oI t h tk (E' : Value → Shared → Prop), i < n → Inv i c → Fr h₀ L h m → News h₀ L h ((I, oI) :: Led c) → Off1 I (Led c) →
      wpAny (model prog w) A (assign target env (.int i t)) (fun _ s₂ => wpAny (model prog w) A (execs body env) (TurnEnd h₀ L Led (Inv (i + 1)) I oI { s₁ with heap := h, toks := tk } Q) E' s₂) E' { s₁ with heap := h, toks := tk }) ∧
    ∀ c m h tk, Inv n c → Fr h₀ L h m → News h₀ L h (Led c) → Q .next { s₁ with heap := h, toks := tk }
section
variable {prog : Program} {w : World} {A : Around} {E : Value → Shared → Prop} {s : Shared} {h₀ : Heap} {L : Addr} {env : Env}
theorem for_range {σ : Type} {x : Str} {px pos : Pos} {iter : Expr} {body : List Stmt} {Q : Flow → Shared → Prop} (n : Nat) (Led : σ → List (Addr × Obj)) (Inv : Nat → σ → Prop) (hh : A.handled = none)
    (h : wpAny (model prog w) A (eval iter env) (ForPost prog w A h₀ L env (.Name x px) body n Led Inv Q) E s)
    (hs : ∀ x, foldedSetIterable iter env x = pure x := by intro _; rfl) :
    wpAny (model prog w) A (exec (.For (.Name x px) iter body [] pos) env) Q E s := by
  refine wpAny_For (wpAny_mono h (fun xv s₁ h₁ => ?_) fun _ _ e => e) hs
  obtain ⟨m₀, c₀, r, t, u, v, rfl, hr, hn, F, N, h0, turn, done⟩ := h₁
  refine wpAny_pyIter_range hr (small_one (by decide) (by decide) (by omega) (by omega)) ?_
  have hsz : Builtin.Range.rangeSize 0 (n : Int) 1 = (n : Int) := by rw [rangeSize_nat]; omega
  rw [hsz]
  generalize hI : s₁.heap.objs.size = I
  have W : Walks prog w A I [I] [I] n (fun i v => ∃ t, v = .int (0 + (i : Int) * 1) t) (fun i h => IsRangeIter h I (0 + (i : Nat) * 1) ((n : Int) - (i : Nat)) 1) := Walks.range hh I 0 1 n
  have hLI : L ≠ I := hI ▸ Nat.ne_of_lt F.ns.lt
  have hI₀ : h₀.get? I = none := hI ▸ next_is_new F
  refine codeAny_forLoop
    (fun k s' => ∃ h' tk m c i, s' = { s₁ with heap := h', toks := tk } ∧ IsRangeIter h' I (0 + (i : Nat) * 1) ((n : Int) - (i : Nat)) 1 ∧ Fr h₀ L h' m ∧ News h₀ L h' (Led c) ∧ (∀ p ∈ Led c, p.1 ≠ I) ∧ Inv i c ∧ i ≤ n ∧ k = n + 1 - i) ?_ (n + 1)
    ⟨_, s₁.toks, m₀, c₀, 0, rfl, ?_, F.push _, N.grown fun b o e => Heap.get?_push_of_some _ e, fun p hp => hI ▸ Nat.ne_of_lt (Heap.lt_size (N p hp).1), h0, Nat.zero_le _, rfl⟩
  · rintro k s' ⟨h', tk, m, c, i, rfl, hst, F', N', off, hinv, hi, rfl⟩
    have next : ∀ h₁ : Heap, (∀ b o, b ∉ [I] → h'.get? b = some o → h₁.get? b = some o) → Fr h₀ L h₁ m ∧ News h₀ L h₁ (Led c) := fun h₁ hk₁ =>
      ⟨fr_but F' hk₁ hLI hI₀, news_but N' hk₁ off⟩
    by_cases hlt : i < n
    · refine W.item i _ _ _ hlt hst fun v h₁ tk₁ hP hst₁ hk₁ => ?_
      obtain ⟨t, rfl⟩ := hP
      obtain ⟨F₁, N₁⟩ := next h₁ hk₁
      have e0 : (0 : Int) + (i : Int) * 1 = (i : Int) := by omega
      rw [e0]
      obtain ⟨oI, gI, hoI⟩ : ∃ o, h₁.get? I = some o ∧ ∀ g : Heap, g.get? I = some o → IsRangeIter g I (0 + ((i + 1 : Nat) : Int) * 1) ((n : Int) - ((i + 1 : Nat) : Int)) 1 := ⟨_, hst₁, fun _ e => e⟩
      have N₂ : News h₀ L h₁ ((I, oI) :: Led c) := fun p hp => by
        rcases List.mem_cons.mp hp with rfl | hp
        · exact ⟨gI, Ne.symm hLI, hI₀⟩
        · exact N₁ p hp
      refine wpAny_mono (turn i c m I oI t h₁ tk₁ _ hlt hinv F₁ N₂ (Off1.of off)) (fun _ s₂ h₂ => wpAny_mono h₂ (fun f s₃ h₃ => ?_) fun _ _ e => e) fun _ _ e => e
      have fin : TurnNext h₀ L Led (Inv (i + 1)) I oI { s₁ with heap := h₁, toks := tk₁ } s₃ → ∃ m', m' < n + 1 - i ∧ ∃ h' tk m c i, s₃ = { s₁ with heap := h', toks := tk } ∧ IsRangeIter h' I (0 + (i : Nat) * 1) ((n : Int) - (i : Nat)) 1 ∧ Fr h₀ L h' m ∧ News h₀ L h' (Led c) ∧ (∀ p ∈ Led c, p.1 ≠ I) ∧ Inv i c ∧ i ≤ n ∧ m' = n + 1 - i := by
        rintro ⟨h', tk', m', c', rfl, hinv', F₃, N₃, off₃⟩
        exact ⟨n + 1 - (i + 1), by omega, h', tk', m', c', i + 1, rfl, hoI _ (N₃ _ (.head _)).1, F₃, fun p hp => N₃ p (.tail _ hp), Off1.mem off₃, hinv', hlt, rfl⟩
      cases f with
      | ret v => exact h₃
      | brk => exact h₃
      | next => exact fin h₃
      | cont => exact fin h₃
    · obtain rfl : i = n := Nat.le_antisymm hi (Nat.not_lt.mp hlt)
      refine W.done _ _ _ hst fun h₁ tk₁ hk₁ => wpAny_execs_nil ?_
      obtain ⟨F₁, N₁⟩ := next h₁ hk₁
      exact done c m h₁ tk₁ hinv F₁ N₁
  · show Heap.get? _ I = some _
    rw [← hI]
    simpa using Heap.get?_push_size _ rfl
end
end Mine
end
section
open PySem PySem.W PyProof.Rows PySem.Calls PySem.Spec
set_option Elab.async false
set_option maxRecDepth 100000
namespace Mine
open LCg
def ElemEnd (h₀ : Heap) (L : Addr) (m : Str → Option Value) (I : Addr) (oI : Obj) (C : Addr) (oC : Obj) (D : Addr) (ys : List Value) (Inv' : List Value → List (Addr × Obj) → Prop) (s₁ : Shared) (y : Value) (s₂ : Shared) : Prop :=
  ∃ h' tk' news', s₂ = { s₁ with heap := h', toks := tk' } ∧ Fr h₀ L h' m ∧ News h₀ L h' ((I, oI) :: (C, oC) :: (D, lst ys) :: news') ∧ Off3 I C D news' ∧ Inv' (ys ++ [y]) news'
def CompPost (prog : Program) (w : World) (A : Around) (h₀ : Heap) (L : Addr) (m : Str → Option Value) (env : Env) (elt : Expr) (x : Str) (scope : Scope) (cl : List (Str × Addr)) (n : Nat) (Src : Value → Shared → Prop) (P : Nat → Value → Prop) (Inv : Nat → List Value → List (Addr × Obj) → Prop) (Q : Value → Shared → Prop) (xv : Value) (s₁ : Shared) : Prop :=
  ∃ news₀, Src xv s₁ ∧ n < 2 ^ 20 ∧ Fr h₀ L s₁.heap m ∧ News h₀ L s₁.heap news₀ ∧ Inv 0 [] news₀ ∧
    (∀ (i : Nat) ys news v I oI C oC D m₂ h tk (E' : Value → Shared → Prop), i < n → ys.length = i → Inv i ys news → P i v → NsObj oC m₂ → m₂ x = some v → Fr h₀ L h m → News h₀ L h ((I, oI) :: (C, oC) :: (D, lst ys) :: news) → Off3 I C D news →
      ((@Ne Nat I C) ∧ (@Ne Nat I D) ∧ (@Ne Nat C D)) →
      wpAny (model prog w) A (eval elt (compEnvC scope cl C env)) (ElemEnd h₀ L m I oI C oC D ys (Inv (i + 1)) { s₁ with heap := h, toks := tk }) E' { s₁ with heap := h, toks := tk }) ∧
    ∀ ys news D h tk, ys.length = n → Inv n ys news → Fr h₀ L h m → News h₀ L h ((D, lst ys) :: news) → Off1 D news → Q (.ref D) { s₁ with heap := h, toks := tk }
section
variable {prog : Program} {w : World} {A : Around} {E : Value → Shared → Prop} {s : Shared} {h₀ : Heap} {L : Addr} {m : Str → Option Value} {env : Env}
theorem comp_rest {elt : Expr} {x : Str} {scope : Scope} {cl : List (Str × Addr)} {n : Nat} {P : Nat → Value → Prop} {Inv : Nat → List Value → List (Addr × Obj) → Prop} {S : List (Addr × Obj) → Prop} (hS : ∀ i ys news, Inv i ys news → S news)
    (turn : ∀ (i : Nat) ys news v I oI C oC D m₂ h tk (E' : Value → Shared → Prop), i < n → ys.length = i → Inv i ys news → P i v → NsObj oC m₂ → m₂ x = some v → Fr h₀ L h m → News h₀ L h ((I, oI) :: (C, oC) :: (D, lst ys) :: news) → Off3 I C D news →
      ((@Ne Nat I C) ∧ (@Ne Nat I D) ∧ (@Ne Nat C D)) →
      wpAny (model prog w) A (eval elt (compEnvC scope cl C env)) (ElemEnd h₀ L m I oI C oC D ys (Inv (i + 1)) { s with heap := h, toks := tk }) E' { s with heap := h, toks := tk }) :
    ∀ k i ys news, i + k = n → ys.length = i → Inv i ys news → CompRest prog w A h₀ L m env elt x scope cl s S P (fun ys news => ys.length = n ∧ Inv n ys news) k i ys news
  | 0, i, ys, news, e, hl, hi => .zero (by obtain rfl : i = n := by omega
                                           exact ⟨hl, hi⟩)
  | k + 1, i, ys, news, e, hl, hi => .succ fun v I oI C oC D m₂ h tk E' hP hC hx F N off ne => by
    refine wpAny_mono (turn i ys news v I oI C oC D m₂ h tk E' (by omega) hl hi hP hC hx F N off ne) (fun y s₂ hy => ?_) fun _ _ e => e
    obtain ⟨h', tk', news', rfl, F', N', off', hi'⟩ := hy
    exact ⟨h', tk', news', rfl, F', N', off', hS _ _ _ hi', comp_rest hS turn k (i + 1) (ys ++ [y]) news' (by omega) (by rw [List.length_append, List.length_singleton, hl]) hi'⟩
theorem fin_rest {elt : Expr} {x : Str} {scope : Scope} {cl : List (Str × Addr)} {P : Nat → Value → Prop} {S : List (Addr × Obj) → Prop} {Fin Fin' : List Value → List (Addr × Obj) → Prop} (hF : ∀ ys news, Fin ys news → Fin' ys news) :
    ∀ k i ys news, CompRest prog w A h₀ L m env elt x scope cl s S P Fin k i ys news → CompRest prog w A h₀ L m env elt x scope cl s S P Fin' k i ys news
  | 0, _, _, _, h => hF _ _ h
  | k + 1, i, ys, news, h => .succ fun v I oI C oC D m₂ hh tk E' hP hC hx F N off ne => by
    refine wpAny_mono (h v I oI C oC D m₂ hh tk E' hP hC hx F N off ne) (fun y s₂ hy => ?_) fun _ _ e => e
    obtain ⟨h', tk', news', e, F', N', off', hS', r⟩ := hy
    exact ⟨h', tk', news', e, F', N', off', hS', fin_rest hF k _ _ _ r⟩
theorem comp_range {elt iter : Expr} {x : Str} {px : Pos} {scope : Scope} {cl : List (Str × Addr)} {pos : Pos} {Q : Value → Shared → Prop} (n : Nat) (Inv : Nat → List Value → List (Addr × Obj) → Prop) (F₀ : Fr h₀ L s.heap m)
    (hclos : closureFor scope env = pure cl) (hcell : ∀ y ∈ scope.names, y.2 ≠ .cell) (hkind : scope.kind = .function)
    (hnames : ∀ y ∈ scope.names, y.2 = .local → scope.names.lookup y.1 = some .local) (hx : scope.names.lookup x = some .local) (hh : A.handled = none)
    (h : wpAny (model prog w) A (eval iter env) (CompPost prog w A h₀ L m env elt x scope cl n (fun xv s₁ => ∃ r t u v, xv = .ref r ∧ IsRange s₁.heap r 0 n 1 t u v) (fun i v => ∃ t, v = .int i t) Inv Q) E s)
    (hs : ∀ x, foldedSetIterable iter env x = pure x := by intro _; rfl) :
    wpAny (model prog w) A (eval (.ListComp elt [⟨.Name x px, iter, [], 0⟩] scope pos) env) Q E s := by
  refine ListComp_U F₀ hclos hcell hkind hnames hx (wpAny_mono h (fun xv s₁ h₁ => ?_) fun _ _ e => e) hs
  obtain ⟨news₀, ⟨r, t, u, v, rfl, hr⟩, hn, F, N, h0, turn, done⟩ := h₁
  refine CompSrc.range hh F N hr (small_one (by decide) (by decide) (by omega) (by omega)) (n := n) (by rw [rangeSize_nat]; omega) (Nat.le_trans (Nat.le_of_lt hn) (by decide)) fun g => ?_
  refine fin_rest ?_ n 0 [] news₀ (comp_rest (S := fun _ => True) (Inv := Inv) (n := n) (P := fun i v => ∃ t, v = .int (0 + (i : Int)) t) (s := { s₁ with heap := g }) (fun _ _ _ _ => trivial) (fun i ys news v I oI C oC D m₂ h tk E' hi hl hI hP hC hx F N off ne => ?_) n 0 [] news₀ (Nat.zero_add _) rfl h0)
  · rintro ys news ⟨hl, hi⟩ D h tk F' N' o1
    exact done ys news D h tk hl hi F' N' o1
  · exact turn i ys news v I oI C oC D m₂ h tk E' hi hl hI (by obtain ⟨t, rfl⟩ := hP; exact ⟨t, by rw [Int.zero_add]⟩) hC hx F N off ne
theorem comp_list {elt iter : Expr} {x : Str} {px : Pos} {scope : Scope} {cl : List (Str × Addr)} {pos : Pos} {Q : Value → Shared → Prop} (vs : List Value) (Inv : Nat → List Value → List (Addr × Obj) → Prop) (l : Addr) (n₀ : Nat) (F₀ : Fr h₀ L s.heap m)
    (hI : ∀ i ys news, Inv i ys news → (l, listOf vs.toArray n₀) ∈ news)
    (hclos : closureFor scope env = pure cl) (hcell : ∀ y ∈ scope.names, y.2 ≠ .cell) (hkind : scope.kind = .function)
    (hnames : ∀ y ∈ scope.names, y.2 = .local → scope.names.lookup y.1 = some .local) (hx : scope.names.lookup x = some .local) (hh : A.handled = none)
    (h : wpAny (model prog w) A (eval iter env) (CompPost prog w A h₀ L m env elt x scope cl vs.length (fun xv _ => xv = .ref l) (fun i v => vs[i]? = some v) Inv Q) E s)
    (hs : ∀ x, foldedSetIterable iter env x = pure x := by intro _; rfl) :
    wpAny (model prog w) A (eval (.ListComp elt [⟨.Name x px, iter, [], 0⟩] scope pos) env) Q E s := by
  refine ListComp_U F₀ hclos hcell hkind hnames hx (wpAny_mono h (fun xv s₁ h₁ => ?_) fun _ _ e => e) hs
  obtain ⟨news₀, rfl, hn, F, N, h0, turn, done⟩ := h₁
  refine CompSrc.ledger (its := vs.toArray) hh F N (hI _ _ _ h0) (by rw [List.size_toArray]; exact Nat.le_trans (Nat.le_of_lt hn) (by decide)) fun g => ?_
  have hsz : vs.toArray.size = vs.length := List.size_toArray ..
  rw [hsz]
  refine fin_rest ?_ vs.length 0 [] news₀ (comp_rest (Inv := Inv) (n := vs.length) (P := fun i v => vs.toArray[i]? = some v) (s := { s₁ with heap := g }) (fun i ys news hi => .inr ⟨_, hI i ys news hi, rfl, _, rfl⟩) (fun i ys news v I oI C oC D m₂ h tk E' hi hl hI hP hC hx F N off ne => ?_) vs.length 0 [] news₀ (Nat.zero_add _) rfl h0)
  · rintro ys news ⟨hl, hi⟩ D h tk F' N' o1
    exact done ys news D h tk hl hi F' N' o1
  · exact turn i ys news v I oI C oC D m₂ h tk E' hi hl hI (by simpa using hP) hC hx F N off ne
end
end Mine
end
section
open PySem PySem.W PyProof.Rows PySem.Calls PySem.Spec
set_option Elab.async false
set_option maxRecDepth 100000
namespace Mine
open LCg
def TurnNextL {σ : Type} (h₀ : Heap) (L : Addr) (Led : σ → List (Addr × Obj)) (Inv' : σ → (Str → Option Value) → Prop) (I : Addr) (oI : Obj) (s₁ s₃ : Shared) : Prop :=
  ∃ h' tk' m' c', s₃ = { s₁ with heap := h', toks := tk' } ∧ Inv' c' m' ∧ Fr h₀ L h' m' ∧ News h₀ L h' ((I, oI) :: Led c') ∧ Off1 I (Led c')
def TurnEndL {σ : Type} (h₀ : Heap) (L : Addr) (Led : σ → List (Addr × Obj)) (Inv' : σ → (Str → Option Value) → Prop) (I : Addr) (oI : Obj) (s₁ : Shared) (Q : Flow → Shared → Prop) (f : Flow) (s₃ : Shared) : Prop :=
  match f with
  | .ret v => Q (.ret v) s₃
  | .brk => Q .next s₃
  | _ => TurnNextL h₀ L Led Inv' I oI s₁ s₃
def ForPostL {σ : Type} (prog : Program) (w : World) (A : Around) (h₀ : Heap) (L : Addr) (env : Env) (target : Expr) (body : List Stmt) (vs : List Value) (Led : Addr → σ → List (Addr × Obj)) (Inv : Addr → Nat → σ → (Str → Option Value) → Prop) (Q : Flow → Shared → Prop) (xv : Value) (s₁ : Shared) : Prop :=
  ∃ l n₀ m₀ c₀, xv = .ref l ∧ (∀ c, (l, listOf vs.toArray n₀) ∈ Led l c) ∧ Fr h₀ L s₁.heap m₀ ∧ News h₀ L s₁.heap (Led l c₀) ∧ Inv l 0 c₀ m₀ ∧
    (∀ (i : Nat) (c : σ) m I oI v h tk (E' : Value → Shared → Prop), vs[i]? = some v → Inv l i c m → Fr h₀ L h m → News h₀ L h ((I, oI) :: Led l c) → Off1 I (Led l c) →
      wpAny (model prog w) A (assign target env v) (fun _ s₂ => wpAny (model prog w) A (execs body env) (TurnEndL h₀ L (Led l) (Inv l (i + 1)) I oI { s₁ with heap := h, toks := tk } Q) E' s₂) E' { s₁ with heap := h, toks := tk }) ∧
    ∀ c m h tk, Inv l vs.length c m → Fr h₀ L h m → News h₀ L h (Led l c) → Q .next { s₁ with heap := h, toks := tk }
section
variable {prog : Program} {w : World} {A : Around} {E : Value → Shared → Prop} {s : Shared} {h₀ : Heap} {L : Addr} {env : Env}
theorem for_list {σ : Type} {x : Str} {px pos : Pos} {iter : Expr} {body : List Stmt} {Q : Flow → Shared → Prop} (vs : List Value) (Led' : Addr → σ → List (Addr × Obj)) (Inv' : Addr → Nat → σ → (Str → Option Value) → Prop) (hh : A.handled = none)
    (h : wpAny (model prog w) A (eval iter env) (ForPostL prog w A h₀ L env (.Name x px) body vs Led' Inv' Q) E s)
    (hs : ∀ x, foldedSetIterable iter env x = pure x := by intro _; rfl) :
    wpAny (model prog w) A (exec (.For (.Name x px) iter body [] pos) env) Q E s := by
  refine wpAny_For (wpAny_mono h (fun xv s₁ h₁ => ?_) fun _ _ e => e) hs
  obtain ⟨l, n₀, m₀, c₀, rfl, hled, F, N, h0, turn, done⟩ := h₁
  generalize hLed : Led' l = Led at *
  generalize hInv : Inv' l = Inv at *
  have hl : s₁.heap.IsList l vs.toArray := ⟨_, (N _ (hled c₀)).1, rfl, _, rfl⟩
  refine wpAny_pyIter_list hl ?_
  generalize hI : s₁.heap.objs.size = I
  have hlI : l ≠ I := hI ▸ Nat.ne_of_lt (Heap.lt_size (N _ (hled c₀)).1)
  have W : Walks prog w A I [I, l] [I] vs.toArray.size (fun i v => vs.toArray[i]? = some v) (fun i h => h.IsListIter I l i ∧ h.IsList l vs.toArray) := Walks.list hh I l hlI vs.toArray
  have hsz : vs.toArray.size = vs.length := List.size_toArray ..
  rw [hsz] at W
  have hLI : L ≠ I := hI ▸ Nat.ne_of_lt F.ns.lt
  have hI₀ : h₀.get? I = none := hI ▸ next_is_new F
  refine codeAny_forLoop
    (fun k s' => ∃ h' tk m c i, s' = { s₁ with heap := h', toks := tk } ∧ h'.IsListIter I l i ∧ Fr h₀ L h' m ∧ News h₀ L h' (Led c) ∧ (∀ p ∈ Led c, p.1 ≠ I) ∧ Inv i c m ∧ i ≤ vs.length ∧ k = vs.length + 1 - i) ?_ (vs.length + 1)
    ⟨_, s₁.toks, m₀, c₀, 0, rfl, ?_, F.push _, N.grown fun b o e => Heap.get?_push_of_some _ e, fun p hp => hI ▸ Nat.ne_of_lt (Heap.lt_size (N p hp).1), h0, Nat.zero_le _, rfl⟩
  · rintro k s' ⟨h', tk, m, c, i, rfl, hst, F', N', off, hinv, hi, rfl⟩
    have hls : h'.IsList l vs.toArray := ⟨_, (N' _ (hled c)).1, rfl, _, rfl⟩
    have next : ∀ h₁ : Heap, (∀ b o, b ∉ [I] → h'.get? b = some o → h₁.get? b = some o) → Fr h₀ L h₁ m ∧ News h₀ L h₁ (Led c) := fun h₁ hk₁ =>
      ⟨fr_but F' hk₁ hLI hI₀, news_but N' hk₁ off⟩
    by_cases hlt : i < vs.length
    · refine W.item i _ _ _ hlt ⟨hst, hls⟩ fun v h₁ tk₁ hP hst₁ hk₁ => ?_
      obtain ⟨F₁, N₁⟩ := next h₁ hk₁
      have hv : vs[i]? = some v := by simpa using hP
      obtain ⟨oI, gI, hoI⟩ : ∃ o, h₁.get? I = some o ∧ ∀ g : Heap, g.get? I = some o → g.IsListIter I l (i + 1) := by
        obtain ⟨o, ho, r⟩ := hst₁.1
        exact ⟨o, ho, fun g e => ⟨o, e, r⟩⟩
      have N₂ : News h₀ L h₁ ((I, oI) :: Led c) := fun p hp => by
        rcases List.mem_cons.mp hp with rfl | hp
        · exact ⟨gI, Ne.symm hLI, hI₀⟩
        · exact N₁ p hp
      refine wpAny_mono (turn i c m I oI v h₁ tk₁ _ hv hinv F₁ N₂ (Off1.of off)) (fun _ s₂ h₂ => wpAny_mono h₂ (fun f s₃ h₃ => ?_) fun _ _ e => e) fun _ _ e => e
      have fin : TurnNextL h₀ L Led (Inv (i + 1)) I oI { s₁ with heap := h₁, toks := tk₁ } s₃ → ∃ m', m' < vs.length + 1 - i ∧ ∃ h' tk m c i, s₃ = { s₁ with heap := h', toks := tk } ∧ h'.IsListIter I l i ∧ Fr h₀ L h' m ∧ News h₀ L h' (Led c) ∧ (∀ p ∈ Led c, p.1 ≠ I) ∧ Inv i c m ∧ i ≤ vs.length ∧ m' = vs.length + 1 - i := by
        rintro ⟨h', tk', m', c', rfl, hinv', F₃, N₃, off₃⟩
        exact ⟨vs.length + 1 - (i + 1), by omega, h', tk', m', c', i + 1, rfl, hoI _ (N₃ _ (.head _)).1, F₃, fun p hp => N₃ p (.tail _ hp), Off1.mem off₃, hinv', hlt, rfl⟩
      cases f with
      | ret v => exact h₃
      | brk => exact h₃
      | next => exact fin h₃
      | cont => exact fin h₃
    · obtain rfl : i = vs.length := Nat.le_antisymm hi (Nat.not_lt.mp hlt)
      refine W.done _ _ _ ⟨hst, hls⟩ fun h₁ tk₁ hk₁ => wpAny_execs_nil ?_
      obtain ⟨F₁, N₁⟩ := next h₁ hk₁
      exact done c m h₁ tk₁ hinv F₁ N₁
  · exact ⟨_, by rw [← hI]; exact Heap.get?_push_size _ rfl, rfl, rfl⟩
end
theorem turn_nextL {σ : Type} {h₀ h' : Heap} {L I : Addr} {oI : Obj} {m' : Str → Option Value} {news' : List (Addr × Obj)} {Led : σ → List (Addr × Obj)} {Inv' : σ → (Str → Option Value) → Prop} {s₁ : Shared} {tk' : Nat} (c : σ) (F : Fr h₀ L h' m') (N : News h₀ L h' news') (hs : ∀ p ∈ (I, oI) :: Led c, p ∈ news') (off : LCg.Off1 I (Led c)) (hi : Inv' c m') :
    TurnNextL h₀ L Led Inv' I oI s₁ { s₁ with heap := h', toks := tk' } := ⟨h', tk', m', c, rfl, hi, F, fun p hp => N p (hs p hp), off⟩
end Mine
end
section
open PySem PySem.W PyProof.Rows PySem.Calls PySem.Spec
set_option Elab.async false
set_option maxRecDepth 100000
namespace Mine
open PySem.SeqAt
theorem all_ne {d e : Addr} {l : List (Addr × Obj)} (h : AllLt d l) (hde : @LE.le Nat _ d e) : ∀ p ∈ l, p.1 ≠ e := fun p hp => Nat.ne_of_lt (Nat.lt_of_lt_of_le (ktn_ltOf h p hp) hde)
theorem allLt_tl6 {d : Addr} {p1 p2 p3 p4 p5 p6 : Addr × Obj} {l : List (Addr × Obj)} (h : AllLt d (p1 :: p2 :: p3 :: p4 :: p5 :: p6 :: l)) : AllLt d l := h.2.2.2.2.2.2
theorem qb {Q : Bool → Shared → Prop} {b b' : Bool} {st : Shared} (h : Q b st) (e : b' = b) : Q b' st := e ▸ h
theorem t2_a {e u : Bool} (h : e = true) : false = (!e && u) := by rw [h]; rfl
theorem t2_b {e u : Bool} (h : e = false) (h' : u = true) : true = (!e && u) := by rw [h, h']; rfl
theorem t2_c {e u : Bool} (h : e = false) (h' : u = false) : false = (!e && u) := by rw [h, h']; rfl
theorem sg_bd (v : Int) : -1 ≤ sg v ∧ sg v ≤ 1 := by unfold sg; (repeat' split) <;> omega
def Hold (P : Prop) : Prop := P
theorem hold {P : Prop} (h : Hold P) : P := h
def ptD (x y : Int) : PyData := .tuple [.int x, .int y]
def eqp (x y x' y' : Int) : Bool := decide (x = x') && decide (y = y')
theorem eqv_pt (x y x' y' : Int) : PyData.eqv (ptD x y) (ptD x' y') = eqp x y x' y' := by
  simp only [ptD, PyData.eqv, PyData.eqvAll, eqp, Bool.and_true]
  rfl
theorem reads_pt {h : Heap} {a : Addr} {x y : Int} {t u : Tok} {n : Nat} (g : h.get? a = some (tup [.int x t, .int y u] n)) : Reads h (.ref a) (ptD x y) [] :=
  reads_tuple_at g rfl rfl (.cons (.int _ _) (.cons (.int _ _) .nil))
theorem lay_pt (x y : Int) : (ptD x y).canLay0 = true := rfl
theorem depth_pt (x y : Int) : (ptD x y).depth ≤ 4 := by simp [ptD, PyData.depth, PyData.depthAll]
section
variable {prog : Program} {w : World} {A : Around} {E : Value → Shared → Prop} {s : Shared} {Q : Value → Shared → Prop} {o q c d : Addr} {x y x3 y3 x4 y4 : Int} {t1 t2 t3 t4 t5 t6 : Tok} {n1 n2 n3 n4 : Nat}
theorem in_pair (ho : s.heap.get? o = some (tup [.ref c, .ref d] n1)) (hq : s.heap.get? q = some (tup [.int x t1, .int y t2] n2)) (hc : s.heap.get? c = some (tup [.int x3 t3, .int y3 t4] n3)) (hd : s.heap.get? d = some (tup [.int x4 t5, .int y4 t6] n4))
    (hu : A.units + 8 < cLine) (h : Q (.bool (eqp x3 y3 x y || eqp x4 y4 x y)) s) : wpAny (model prog w) A (compareOp .In (.ref q) (.ref o)) Q E s := by
  refine in_tuple_reads (xs := [ptD x3 y3, ptD x4 y4]) (d := ptD x y) (reads_tuple_at ho rfl rfl (.cons (reads_pt hc) (.cons (reads_pt hd) .nil))) (reads_pt hq) rfl rfl ?_ ?_
  · have := depth_pt x y; omega
  · simpa only [List.any_cons, List.any_nil, eqv_pt, Bool.or_false] using h
def pickD (c0 c1 : Bool) (x1 y1 x2 y2 : Int) : List PyData := (if c0 then [ptD x1 y1] else []) ++ (if c1 then [ptD x2 y2] else [])
theorem reads_pick {h : Heap} {c0 c1 : Bool} (ha : h.get? c = some (tup [.int x3 t3, .int y3 t4] n3)) (hb : h.get? d = some (tup [.int x4 t5, .int y4 t6] n4)) : ReadsAll h (pick2 c0 c1 (.ref c) (.ref d)) (pickD c0 c1 x3 y3 x4 y4) [] := by
  cases c0 <;> cases c1
  · exact .nil
  · exact .cons (reads_pt hb) .nil
  · exact .cons (reads_pt ha) .nil
  · exact .cons (reads_pt ha) (.cons (reads_pt hb) .nil)
theorem pickD_lay {c0 c1 : Bool} : PyData.canLayAll0 (pickD c0 c1 x3 y3 x4 y4) = true := by cases c0 <;> cases c1 <;> rfl
theorem pickD_depth {c0 c1 : Bool} : (PyData.list (pickD c0 c1 x3 y3 x4 y4)).depth ≤ 5 := by
  cases c0 <;> cases c1 <;> simp [pickD, ptD, PyData.depth, PyData.depthAll]
theorem pickD_any {c0 c1 : Bool} : ((pickD c0 c1 x3 y3 x4 y4).any fun z => PyData.eqv z (ptD x y)) = (c0 && eqp x3 y3 x y || c1 && eqp x4 y4 x y) := by
  cases c0 <;> cases c1 <;> simp [pickD, eqv_pt]
theorem notIn_pick {c0 c1 : Bool} {l : Addr} (hl : s.heap.get? l = some (LCg.lst (pick2 c0 c1 (.ref c) (.ref d)))) (hq : s.heap.get? q = some (tup [.int x t1, .int y t2] n2)) (hc : s.heap.get? c = some (tup [.int x3 t3, .int y3 t4] n3)) (hd : s.heap.get? d = some (tup [.int x4 t5, .int y4 t6] n4))
    (hu : A.units + 8 < cLine) (h : Q (.bool (!(c0 && eqp x3 y3 x y || c1 && eqp x4 y4 x y))) s) : wpAny (model prog w) A (compareOp .NotIn (.ref q) (.ref l)) Q E s := by
  refine notIn_list_reads (xs := pickD c0 c1 x3 y3 x4 y4) (d := ptD x y) (reads_list_at hl rfl rfl (reads_pick hc hd)) (reads_pt hq) pickD_lay rfl ?_ ?_
  · have := depth_pt x y; omega
  · rw [pickD_any]; exact h
theorem ne_nil {c0 c1 : Bool} {l e : Addr} {k : Nat} (hl : s.heap.get? l = some (LCg.lst (pick2 c0 c1 (.ref c) (.ref d)))) (he : s.heap.get? e = some ({ cls := .type "list", data := .seq ([] : List Value).toArray k })) (hc : s.heap.get? c = some (tup [.int x3 t3, .int y3 t4] n3)) (hd : s.heap.get? d = some (tup [.int x4 t5, .int y4 t6] n4))
    (hu : A.units + 64 < cLine) (h : Q (.bool (c0 || c1)) s) : wpAny (model prog w) A (compareOp .NotEq (.ref l) (.ref e)) Q E s := by
  refine ne_dataH (da := .list (pickD c0 c1 x3 y3 x4 y4)) (db := .list []) (reads_list_at hl rfl rfl (reads_pick hc hd)) (reads_list_at he rfl rfl .nil) ?_ rfl hu ?_
  · unfold shaped
    rw [Bool.and_eq_true]
    exact ⟨pickD_lay, by have := pickD_depth (x3 := x3) (y3 := y3) (x4 := x4) (y4 := y4) (c0 := c0) (c1 := c1); exact decide_eq_true (by omega)⟩
  · have e : (!(PyData.list (pickD c0 c1 x3 y3 x4 y4)).eqv (.list [])) = (c0 || c1) := by cases c0 <;> cases c1 <;> simp [pickD, PyData.eqv, PyData.eqvAll]
    rw [e]; exact h
def cnt2 (c0 c1 : Bool) : Int := (if c0 then 1 else 0) + (if c1 then 1 else 0)
theorem cnt2_gt (c0 c1 : Bool) : decide (cnt2 c0 c1 > 1) = (c0 && c1) := by cases c0 <;> cases c1 <;> rfl
theorem len_pick {c0 c1 : Bool} {l : Addr} {v0 v1 : Value} (hl : s.heap.get? l = some (LCg.lst (pick2 c0 c1 v0 v1))) (h : Q (.int (cnt2 c0 c1) (s.toks + 1)) { s with toks := s.toks + 1 + 1 }) :
    wpAny (model prog w) A (call (.builtin "len") [.ref l]) Q E s := by
  have hL : s.heap.IsList l (pick2 c0 c1 v0 v1).toArray := ⟨_, hl, rfl, _, rfl⟩
  have e : (((pick2 c0 c1 v0 v1).toArray.size : Nat) : Int) = cnt2 c0 c1 := by cases c0 <;> cases c1 <;> rfl
  exact call_len_list hL (by rw [e]; cases c0 <;> cases c1 <;> decide) (by rw [e]; exact h)
theorem pick_len {c0 c1 : Bool} {v0 v1 : Value} : (((pick2 c0 c1 v0 v1).length : Int) > 1) ↔ (c0 && c1) = true := by cases c0 <;> cases c1 <;> simp [pick2]
end
def apartF (c0 c1 d0 d1 e0 e1 : Bool) (u v : Int) : Bool := if 1 < cnt2 c0 c1 then false else if (d0 || d1) = true then false else if (e0 || e1) = true then false else if (c0 || c1) = true then true else decide (0 ≤ u) || decide (0 ≤ v)
section
variable {c0 c1 d0 d1 e0 e1 : Bool} {u v : Int}
theorem ap1 (h : 1 < cnt2 c0 c1) : false = apartF c0 c1 d0 d1 e0 e1 u v := by rw [apartF, if_pos h]
theorem ap2 (h : ¬ 1 < cnt2 c0 c1) (h2 : (d0 || d1) = true) : false = apartF c0 c1 d0 d1 e0 e1 u v := by rw [apartF, if_neg h, if_pos h2]
theorem ap3 (h : ¬ 1 < cnt2 c0 c1) (h2 : (d0 || d1) = false) (h3 : (e0 || e1) = true) : false = apartF c0 c1 d0 d1 e0 e1 u v := by rw [apartF, if_neg h, if_neg (by rw [h2]; decide), if_pos h3]
theorem ap4 (h : ¬ 1 < cnt2 c0 c1) (h2 : (d0 || d1) = false) (h3 : (e0 || e1) = false) (h4 : (c0 || c1) = true) : true = apartF c0 c1 d0 d1 e0 e1 u v := by rw [apartF, if_neg h, if_neg (by rw [h2]; decide), if_neg (by rw [h3]; decide), if_pos h4]
theorem ap5 (h : ¬ 1 < cnt2 c0 c1) (h2 : (d0 || d1) = false) (h3 : (e0 || e1) = false) (h4 : (c0 || c1) = false) (h5 : 0 ≤ u) : decide (0 ≤ u) = apartF c0 c1 d0 d1 e0 e1 u v := by rw [apartF, if_neg h, if_neg (by rw [h2]; decide), if_neg (by rw [h3]; decide), if_neg (by rw [h4]; decide), decide_eq_true h5]; rfl
theorem ap6 (h : ¬ 1 < cnt2 c0 c1) (h2 : (d0 || d1) = false) (h3 : (e0 || e1) = false) (h4 : (c0 || c1) = false) (h5 : ¬ 0 ≤ u) : decide (0 ≤ v) = apartF c0 c1 d0 d1 e0 e1 u v := by rw [apartF, if_neg h, if_neg (by rw [h2]; decide), if_neg (by rw [h3]; decide), if_neg (by rw [h4]; decide), decide_eq_false h5]; rfl
end
end Mine
end
section
open PySem PySem.W PyProof.Rows PySem.Calls PySem.Spec
set_option Elab.async false
set_option maxRecDepth 100000
namespace Mine
/-! the sort's comparison tree: all its leaves are permutations -/
inductive KAll {α : Type} (R : Nat → Nat → Prop) (P : α → Prop) : KasT α → Prop
  | ret {a : α} : P a → KAll R P (.ret a)
  | ask {i j : Nat} {k : Bool → KasT α} : R i j → (∀ b, KAll R P (k b)) → KAll R P (.ask i j k)
theorem KAll.bind {α β : Type} {R : Nat → Nat → Prop} {P : α → Prop} {P' : β → Prop} {t : KasT α} {f : α → KasT β} (h : KAll R P t) (hf : ∀ a, P a → KAll R P' (f a)) : KAll R P' (t.bind f) := by
  induction h with
  | ret h => exact hf _ h
  | ask hr _ ih => exact .ask hr ih
theorem KAll.ite {α : Type} {R : Nat → Nat → Prop} {P : α → Prop} {c : Prop} [Decidable c] {t u : KasT α} (h1 : KAll R P t) (h2 : KAll R P u) : KAll R P (if c then t else u) := by
  split
  · exact h1
  · exact h2
theorem KAll.wp {α : Type} {R : Nat → Nat → Prop} {P : α → Prop} {cmp : Nat → Nat → (Bool → Shared → Prop) → Shared → Prop} {s : Shared} (hc : ∀ i j C, R i j → (∀ b, C b s) → cmp i j C s) {t : KasT α} (h : KAll R P t) {Q : α → Shared → Prop} (hq : ∀ a, P a → Q a s) :
    t.kasWp cmp Q s := by
  induction h with
  | ret h => exact hq _ h
  | ask hr _ ih => exact hc _ _ _ hr ih
section
variable {n : Nat}
def KGood (n : Nat) (p : Array Nat) : Prop := p.toList.Perm (List.range n)
abbrev KR (n : Nat) : Nat → Nat → Prop := fun i j => i < n ∧ j < n
theorem KGood.get {p : Array Nat} (h : KGood n p) (hn : 0 < n) (i : Nat) : p.getD i 0 < n := by
  by_cases hi : i < p.size
  · have e : p.getD i 0 = p[i] := by simp [Array.getD, hi]
    rw [e]
    have hm : p[i] ∈ p.toList := by simp
    exact List.mem_range.mp (h.mem_iff.mp hm)
  · have e : p.getD i 0 = 0 := by simp [Array.getD, hi]
    rw [e]; exact hn
theorem KGood.rev {p : Array Nat} (h : KGood n p) (i j : Nat) : KGood n (kas_rev p i j) := (Array.perm_iff_toList_perm.mp (mirror_perm p i j _)).trans h
theorem KGood.bub {p : Array Nat} (h : KGood n p) (i j : Nat) : KGood n (bubble p i j) := (Array.perm_iff_toList_perm.mp (bubble_perm p i j)).trans h
theorem kall_asc {p : Array Nat} (h : KGood n p) (hn : 0 < n) : ∀ f m, KAll (KR n) (fun _ => True) (kas_asc p f m)
  | 0, _ => .ret trivial
  | f + 1, m => .ask ⟨h.get hn _, h.get hn _⟩ fun _ => .ite (.ret trivial) (kall_asc h hn f (m + 1))
theorem kall_desc (hn : 0 < n) : ∀ f {p : Array Nat} (_ : KGood n p) m q, KAll (KR n) (fun r => KGood n r.1) (kas_desc f p m q)
  | 0, _, h, _, _ => .ret h
  | f + 1, _, h, m, q => .ask ⟨h.get hn _, h.get hn _⟩ fun _ => .ite (.ite (kall_desc hn f (h.rev _ _) _ _) (kall_desc hn f h _ _)) (.ask ⟨h.get hn _, h.get hn _⟩ fun _ => .ite (.ret h) (kall_desc hn f h _ _))
theorem kall_tail3 {p : Array Nat} (h : KGood n p) (hn : 0 < n) (a b : Nat) : KAll (KR n) (fun r => KGood n r.2) (kas_tail3 a b p) :=
  (kall_asc (h.rev _ _) hn _ _).bind fun _ _ => .ret (h.rev _ _)
theorem kall_descPart {p : Array Nat} (h : KGood n p) (hn : 0 < n) (a b : Nat) : KAll (KR n) (fun r => KGood n r.2) (kas_descPart a b p) :=
  (kall_desc hn _ h _ _).bind fun _ hr => .ite (kall_tail3 (hr.rev _ _) hn _ _) (kall_tail3 hr hn _ _)
theorem kall_count {p : Array Nat} (h : KGood n p) (hn : 0 < n) (b : Nat) : KAll (KR n) (fun r => KGood n r.2) (kas_count b p) :=
  (kall_asc h hn _ _).bind fun _ _ => .ite (.ret h) (.ite (.ask ⟨h.get hn _, h.get hn _⟩ fun _ => .ite (.ret h) (kall_descPart (h.rev _ _) hn _ _)) (kall_descPart h hn _ _))
theorem kall_place {p : Array Nat} (h : KGood n p) (hn : 0 < n) (k : Nat) : ∀ f l r, KAll (KR n) (fun _ => True) (kas_place p k f l r)
  | 0, _, _ => .ret trivial
  | f + 1, l, r => .ite (.ret trivial) (.ask ⟨h.get hn _, h.get hn _⟩ fun _ => .ite (kall_place h hn k f _ _) (kall_place h hn k f _ _))
theorem kall_bin (hn : 0 < n) : ∀ f {p : Array Nat} (_ : KGood n p) k, KAll (KR n) (KGood n) (kas_bin f p k)
  | 0, _, h, _ => .ret h
  | f + 1, _, h, k => (kall_place h hn k _ _ _).bind fun _ _ => kall_bin hn f (h.bub _ _) _
theorem kall_sort (hn : 0 < n) : KAll (KR n) (KGood n) (kas_sort n) :=
  (kall_count (p := List.toArray (List.range n)) (List.Perm.refl _) hn n).bind fun _ hr => .ite (kall_bin hn _ hr _) (.ret hr)
end
/-! points in a ledger -/
def PtAt (news : List (Addr × Obj)) (v : Value) (p : Int × Int) : Prop := ∃ a t u n, v = .ref a ∧ (a, tup [.int p.1 t, .int p.2 u] n) ∈ news
inductive Pts (news : List (Addr × Obj)) : List Value → List (Int × Int) → Prop
  | nil : Pts news [] []
  | cons {v : Value} {p : Int × Int} {vs : List Value} {ps : List (Int × Int)} : PtAt news v p → Pts news vs ps → Pts news (v :: vs) (p :: ps)
theorem PtAt.mono {news news' : List (Addr × Obj)} {v : Value} {p : Int × Int} (h : PtAt news v p) (hs : ∀ e ∈ news, e ∈ news') : PtAt news' v p := let ⟨a, t, u, n, e, hm⟩ := h; ⟨a, t, u, n, e, hs _ hm⟩
theorem Pts.mono {news news' : List (Addr × Obj)} {vs : List Value} {ps : List (Int × Int)} (h : Pts news vs ps) (hs : ∀ e ∈ news, e ∈ news') : Pts news' vs ps := by
  induction h with
  | nil => exact .nil
  | cons h _ ih => exact .cons (h.mono hs) ih
theorem Pts.length {news : List (Addr × Obj)} {vs : List Value} {ps : List (Int × Int)} (h : Pts news vs ps) : vs.length = ps.length := by
  induction h with
  | nil => rfl
  | cons _ _ ih => rw [List.length_cons, List.length_cons, ih]
theorem Pts.get {news : List (Addr × Obj)} {vs : List Value} {ps : List (Int × Int)} (h : Pts news vs ps) {i : Nat} (hi : i < ps.length) : ∃ v, vs[i]? = some v ∧ PtAt news v (ps[i]) := by
  induction h generalizing i with
  | nil => exact absurd hi (Nat.not_lt_zero _)
  | cons h _ ih =>
    cases i with
    | zero => exact ⟨_, rfl, h⟩
    | succ i => exact ih (Nat.lt_of_succ_lt_succ hi)
theorem Pts.append {news : List (Addr × Obj)} {vs ws : List Value} {ps qs : List (Int × Int)} (h : Pts news vs ps) (k : Pts news ws qs) : Pts news (vs ++ ws) (ps ++ qs) := by
  induction h with
  | nil => exact k
  | cons h _ ih => exact .cons h ih
theorem Pts.of_mem {news : List (Addr × Obj)} : ∀ {ws : List Value}, (∀ w ∈ ws, ∃ p, PtAt news w p) → ∃ qs, Pts news ws qs
  | [], _ => ⟨[], .nil⟩
  | w :: ws, h => by
    obtain ⟨p, hp⟩ := h w (.head _)
    obtain ⟨qs, hq⟩ := Pts.of_mem (ws := ws) fun w hw => h w (.tail _ hw)
    exact ⟨p :: qs, .cons hp hq⟩
theorem Pts.perm {news : List (Addr × Obj)} {vs ws : List Value} {ps : List (Int × Int)} (h : Pts news vs ps) (hp : ws.Perm vs) : ∃ qs, Pts news ws qs ∧ qs.Perm ps := by
  induction hp generalizing ps with
  | nil => cases h; exact ⟨[], .nil, .refl _⟩
  | cons x _ ih =>
    cases h with
    | cons hx hr => obtain ⟨qs, a, b⟩ := ih hr; exact ⟨_ :: qs, .cons hx a, b.cons _⟩
  | swap x y l =>
    cases h with
    | cons hx hr => cases hr with
      | cons hy hr => exact ⟨_, .cons hy (.cons hx hr), .swap _ _ _⟩
  | trans _ _ ih1 ih2 =>
    obtain ⟨qs, a, b⟩ := ih2 h
    obtain ⟨rs, c, d⟩ := ih1 a
    exact ⟨rs, c, d.trans b⟩
section
variable {prog : Program} {w : World} {A : Around} {E : Value → Shared → Prop} {s : Shared} {h₀ : Heap} {L : Addr} {m : Str → Option Value} {news : List (Addr × Obj)}
theorem pt_lt {a b : Addr} {x1 y1 x2 y2 : Int} {t1 t2 t3 t4 : Tok} {n1 n2 : Nat} {Q : Bool → Shared → Prop} (ha : s.heap.get? a = some (tup [.int x1 t1, .int y1 t2] n1)) (hb : s.heap.get? b = some (tup [.int x2 t3, .int y2 t4] n2))
    (h : Q (lexlt x1 y1 x2 y2) s) : wpAny (model prog w) A (keyLt' (tuples' true) (.ref a) (.ref b)) Q E s := by
  refine kat_lt ha rfl hb rfl ?_
  show KatLex prog w A true (decide (2 < 2)) Q [(.int x1 t1, .int x2 t3), (.int y1 t2, .int y2 t4)] 0 s
  refine kat_cons (wpAny_eqBool_int ?_)
  unfold lexlt at h
  cases hx : (x1 == x2) with
  | true =>
    refine kat_yes (kat_cons (wpAny_eqBool_int ?_))
    have ex : x1 = x2 := by simpa using hx
    subst ex
    cases hy : (y1 == y2) with
    | true =>
      refine kat_yes (kat_nil ?_)
      have ey : y1 = y2 := by simpa using hy
      subst ey
      have e : decide (x1 < x1 ∨ x1 = x1 ∧ y1 < y1) = decide (2 < 2) := by simp
      rw [e] at h; exact h
    | false =>
      refine kat_no (kat_one _ _ (P.lt_int ?_))
      have e : decide (x1 < x1 ∨ x1 = x1 ∧ y1 < y2) = decide (y1 < y2) := by simp
      rw [e] at h; exact h
  | false =>
    refine kat_no (oneLt_int ?_)
    have ex : ¬ x1 = x2 := by simpa using hx
    have e : decide (x1 < x2 ∨ x1 = x2 ∧ y1 < y2) = decide (x1 < x2) := by simp [ex]
    rw [e] at h; exact h
theorem Pts.tups {h : Heap} {vs : List Value} {ps : List (Int × Int)} (N : News h₀ L h news) (hp : Pts news vs ps) : ∃ fs, KatTups h vs fs ∧ fs.length = vs.length ∧ ∀ v ∈ fs, ∃ i t, v = .int i t := by
  induction hp with
  | nil => exact ⟨[], .nil, rfl, fun _ h => nomatch h⟩
  | cons hv _ ih =>
    obtain ⟨a, t, u, n, rfl, hm⟩ := hv
    obtain ⟨fs, h1, h2, h3⟩ := ih
    exact ⟨_ :: fs, .cons (N _ hm).1 rfl rfl rfl h1, by rw [List.length_cons, List.length_cons, h2], fun v hv => by
      rcases List.mem_cons.mp hv with rfl | hv
      · exact ⟨_, _, rfl⟩
      · exact h3 v hv⟩
theorem pts_kind {vs : List Value} {ps : List (Int × Int)} {Q : SortKind → Shared → Prop} (N : News h₀ L s.heap news) (hp : Pts news vs ps) (h0 : 0 < vs.length) (h : Q (tuples' true) s) : wpAny (model prog w) A (keyKind' vs.toArray) Q E s := by
  obtain ⟨fs, h1, h2, h3⟩ := hp.tups N
  exact kat_kind (T := .type "int") h1 (by rw [h2]; exact h0) (fun v hv => by obtain ⟨i, t, rfl⟩ := h3 v hv; exact Looks.of_pure rfl) (by decide) h
theorem getD_range (vs : List Value) : (List.range vs.length).map (fun i => vs.getD i Value.none) = vs := by
  apply List.ext_getElem?
  intro i
  rw [List.getElem?_map]
  by_cases hi : i < vs.length
  · rw [List.getElem?_range hi, List.getElem?_eq_getElem hi]
    simp [List.getElem?_eq_getElem hi]
  · have h1 : vs.length ≤ i := Nat.le_of_not_lt hi
    rw [List.getElem?_eq_none (by simpa using h1), List.getElem?_eq_none h1]; rfl
theorem ask_pts {vs : List Value} {ps : List (Int × Int)} {i j : Nat} {C : Bool → Shared → Prop} (N : News h₀ L s.heap news) (hp : Pts news vs ps) (hi : i < vs.length) (hj : j < vs.length)
    (h : C (lexlt (ps[i]'(hp.length ▸ hi)).1 (ps[i]'(hp.length ▸ hi)).2 (ps[j]'(hp.length ▸ hj)).1 (ps[j]'(hp.length ▸ hj)).2) s) : kas_ask prog w A (tuples' true) vs i j C s := by
  obtain ⟨v, hv, a, t, u, n, rfl, hm⟩ := hp.get (hp.length ▸ hi)
  obtain ⟨v', hv', a', t', u', n', rfl, hm'⟩ := hp.get (hp.length ▸ hj)
  show wpAny _ _ (keyLt' (tuples' true) (vs.getD i .none) (vs.getD j .none)) C _ _
  rw [List.getD_eq_getElem?_getD, List.getD_eq_getElem?_getD, hv, hv']
  exact pt_lt (N.get hm) (N.get hm') h
theorem sorted_pts {l : Addr} {vs : List Value} {ps : List (Int × Int)} {Q : Value → Shared → Prop} (F : Fr h₀ L s.heap m) (N : News h₀ L s.heap news) (hl : s.heap.IsList l vs.toArray) (hp : Pts news vs ps) (h2 : 2 ≤ vs.length) (h64 : vs.length < 64)
    (h : ∀ D ws c h', Fr h₀ L h' m → News h₀ L h' ((D, listOf (List.toArray ws) c) :: news) → (∀ q ∈ news, q.1 < D) → ws.Perm vs → Q (.ref D) { s with heap := h' }) :
    wpAny (model prog w) A (call (.builtin "sorted") [.ref l]) Q E s := by
  refine kat_sorted F N hl h2 h64 fun D e1 h' F' N' hlt => ?_
  have N0 : News h₀ L h' news := fun p hp => N' p (.tail _ hp)
  refine pts_kind (s := { s with heap := h' }) N0 hp (by omega) ?_
  refine KAll.wp (s := { s with heap := h' }) (fun i j C hr hC => ?_) (kall_sort (by omega)) (fun p hpg => ?_)
  · exact ask_pts (s := { s with heap := h' }) N0 hp hr.1 hr.2 (hC _)
  · refine KasFin.intro F' N' (UpdF.head fun q hq => Nat.ne_of_lt (hlt q hq)) fun h'' c F'' N'' => h D _ c h'' F'' N'' hlt ?_
    have := hpg.map fun i => vs.getD i Value.none
    rwa [getD_range] at this
theorem kas_sort_two : kas_sort 2 = .ask 1 0 fun c => if c = true then .ret #[1, 0] else .ret #[0, 1] := by
  show KasT.ask 1 0 _ = KasT.ask 1 0 _
  congr 1
  funext c
  cases c <;> rfl
theorem sorted_two {l a b : Addr} {x1 y1 x2 y2 : Int} {t1 t2 t3 t4 : Tok} {n1 n2 : Nat} {Q : Value → Shared → Prop} (F : Fr h₀ L s.heap m) (N : News h₀ L s.heap news) (hl : s.heap.IsList l [Value.ref a, Value.ref b].toArray)
    (ha : (a, tup [.int x1 t1, .int y1 t2] n1) ∈ news) (hb : (b, tup [.int x2 t3, .int y2 t4] n2) ∈ news)
    (h : ∀ D c h', Fr h₀ L h' m → News h₀ L h' ((D, listOf (List.toArray (if lexlt x2 y2 x1 y1 then [Value.ref b, Value.ref a] else [Value.ref a, Value.ref b])) c) :: news) → (∀ q ∈ news, q.1 < D) → Q (.ref D) { s with heap := h' }) :
    wpAny (model prog w) A (call (.builtin "sorted") [.ref l]) Q E s := by
  have hp : Pts news [Value.ref a, Value.ref b] [(x1, y1), (x2, y2)] := .cons ⟨_, _, _, _, rfl, ha⟩ (.cons ⟨_, _, _, _, rfl, hb⟩ .nil)
  refine kat_sorted F N hl (by simp) (by simp) fun D e1 h' F' N' hlt => ?_
  have N0 : News h₀ L h' news := fun p hp => N' p (.tail _ hp)
  refine pts_kind (s := { s with heap := h' }) N0 hp (by simp) ?_
  show (kas_sort 2).kasWp _ _ _
  rw [kas_sort_two]
  refine ask_pts (s := { s with heap := h' }) (i := 1) (j := 0) N0 hp (by simp) (by simp) ?_
  show KasT.kasWp _ (if lexlt x2 y2 x1 y1 = true then _ else _) _ _
  cases hc : lexlt x2 y2 x1 y1 with
  | true =>
    rw [if_pos rfl]
    refine KasFin.intro F' N' (UpdF.head fun q hq => Nat.ne_of_lt (hlt q hq)) fun h'' c F'' N'' => h D c h'' F'' ?_ hlt
    rw [hc]; exact N''
  | false =>
    rw [if_neg (by simp)]
    refine KasFin.intro F' N' (UpdF.head fun q hq => Nat.ne_of_lt (hlt q hq)) fun h'' c F'' N'' => h D c h'' F'' ?_ hlt
    rw [hc]; exact N''
end
end Mine
end
section
open PySem PySem.W PyProof.Rows PySem.Calls PySem.Spec
set_option Elab.async false
set_option maxRecDepth 100000
namespace Mine
open PySem.SeqAt
def ptAt (ps : List (Int × Int)) (k : Int) : Int × Int := ps.getD k.toNat (0, 0)
theorem ptAt_mem {ps : List (Int × Int)} {k : Int} (h0 : 0 ≤ k) (h1 : k < ps.length) : ptAt ps k ∈ ps := by
  unfold ptAt
  have h : k.toNat < ps.length := by omega
  rw [List.getD_eq_getElem?_getD, List.getElem?_eq_getElem h]
  exact List.getElem_mem h
def Grid (p : Int × Int) : Prop := (0 ≤ p.1 ∧ p.1 ≤ 4) ∧ (0 ≤ p.2 ∧ p.2 ≤ 4)
section
variable {prog : Program} {w : World} {A : Around} {E : Value → Shared → Prop} {s : Shared} {h₀ : Heap} {L : Addr} {m : Str → Option Value} {news news₂ : List (Addr × Obj)} {Q : Value → Shared → Prop} {l : Addr} {vs : List Value} {n : Nat} {ps : List (Int × Int)}
theorem ring_get {k : Int} {u : Tok} (N : News h₀ L s.heap news) (hm : (l, listOf vs.toArray n) ∈ news) (hp : Pts news₂ vs ps) (h0 : 0 ≤ k) (h1 : k < vs.length) (hfit : k < 2 ^ 63)
    (h : ∀ a t u' n', (a, tup [.int (ptAt ps k).1 t, .int (ptAt ps k).2 u'] n') ∈ news₂ → Q (.ref a) s) : wpAny (model prog w) A (getItem (.ref l) (.int k u)) Q E s := by
  have hk : k.toNat < ps.length := by have := hp.length; omega
  obtain ⟨v, hv, a, t, u', n', rfl, ha⟩ := hp.get hk
  have e : ptAt ps k = ps[k.toNat] := by unfold ptAt; rw [List.getD_eq_getElem?_getD, List.getElem?_eq_getElem hk]; rfl
  have hl : s.heap.IsList l vs.toArray := ⟨_, (N _ hm).1, rfl, n, rfl⟩
  exact wpAny_getItem_list hl h0 hfit (by simpa using hv) (h a t u' n' (by rw [e]; exact ha))
theorem ring_item {value slice : PySem.Expr} {k : Int} {u : Tok} (N : News h₀ L s.heap news) (hm : (l, listOf vs.toArray n) ∈ news) (hp : Pts news₂ vs ps) (h0 : 0 ≤ k) (h1 : k < vs.length) (hfit : k < 2 ^ 63)
    (h : ∀ a t u' n', (a, tup [.int (ptAt ps k).1 t, .int (ptAt ps k).2 u'] n') ∈ news₂ → Q (.ref a) s)
    (hs : subscripted slice false (.ref l) (.int k u) = operate [.ref l, .int k u] (getItem (.ref l) (.int k u)) := by with_unfolding_all rfl) :
    wpAny (model prog w) A (subscriptTail value slice (.ref l) (.int k u)) Q E s := by
  have hl : s.heap.IsList l vs.toArray := ⟨_, (N _ hm).1, rfl, n, rfl⟩
  exact tail_any hl.typeIs slot_list_getitem.lookup (ring_get N hm hp h0 h1 hfit h) hs
theorem len_vs (N : News h₀ L s.heap news) (hm : (l, listOf vs.toArray n) ∈ news) (hfit : vs.length < 2 ^ 20) (h : Q (.int vs.length (s.toks + 1)) { s with toks := s.toks + 1 + 1 }) : wpAny (model prog w) A (call (.builtin "len") [.ref l]) Q E s := by
  have hl : s.heap.IsList l vs.toArray := ⟨_, (N _ hm).1, rfl, n, rfl⟩
  have e : vs.toArray.size = vs.length := List.size_toArray ..
  exact call_len_list hl (by rw [e]; omega) (by rw [e]; exact h)
end
section
variable {prog : Program} {w : World} {A : Around} {E : Value → Shared → Prop} {s : Shared} {h₀ : Heap} {L : Addr} {m : Str → Option Value} {news : List (Addr × Obj)} {Q : Value → Shared → Prop} {l : Addr} {n : Nat}
theorem tup_two {c : Bool} {u v : Value} (F : Fr h₀ L s.heap m) (N : News h₀ L s.heap news) (hm : (l, listOf (List.toArray (if c then [u, v] else [v, u])) n) ∈ news)
    (h : ∀ D h', Fr h₀ L h' m → News h₀ L h' ((D, tup [if c then u else v, if c then v else u] 0) :: news) → (∀ p ∈ news, p.1 < D) → Q (.ref D) { s with heap := h' }) : wpAny (model prog w) A (call (.type "tuple") [.ref l]) Q E s := by
  have hl : s.heap.IsList l (List.toArray (if c then [u, v] else [v, u])) := ⟨_, (N _ hm).1, rfl, n, rfl⟩
  refine kde_tupleOf F N hl (by cases c <;> simp) rfl fun D h' F' N' lt => h D h' F' ?_ lt
  cases c <;> exact N'
end
/-- a side in a ledger: a tuple of two points -/
def SdAt (news : List (Addr × Obj)) (v : Value) (p q : Int × Int) : Prop := ∃ o a b t1 t2 t3 t4 n1 n2 n3, v = .ref o ∧ (o, tup [.ref a, .ref b] n1) ∈ news ∧ (a, tup [.int p.1 t1, .int p.2 t2] n2) ∈ news ∧ (b, tup [.int q.1 t3, .int q.2 t4] n3) ∈ news
theorem SdAt.mono {news news' : List (Addr × Obj)} {v : Value} {p q : Int × Int} (h : SdAt news v p q) (hs : ∀ e ∈ news, e ∈ news') : SdAt news' v p q :=
  let ⟨o, a, b, t1, t2, t3, t4, n1, n2, n3, e, h1, h2, h3⟩ := h; ⟨o, a, b, t1, t2, t3, t4, n1, n2, n3, e, hs _ h1, hs _ h2, hs _ h3⟩
/-- the k-th side of the ring, its lesser end first -/
def sdLo (ps : List (Int × Int)) (n : Nat) (k : Nat) : Int × Int := let p := ptAt ps k; let q := ptAt ps (((k + 1) % n : Nat) : Int); if lexlt q.1 q.2 p.1 p.2 then q else p
def sdHi (ps : List (Int × Int)) (n : Nat) (k : Nat) : Int × Int := let p := ptAt ps k; let q := ptAt ps (((k + 1) % n : Nat) : Int); if lexlt q.1 q.2 p.1 p.2 then p else q
def SdsIn (news : List (Addr × Obj)) (ps : List (Int × Int)) (n : Nat) (ys : List Value) : Prop := ∀ k v, ys[k]? = some v → SdAt news v (sdLo ps n k) (sdHi ps n k)
theorem SdsIn.mono {news news' : List (Addr × Obj)} {ps : List (Int × Int)} {n : Nat} {ys : List Value} (h : SdsIn news ps n ys) (hs : ∀ e ∈ news, e ∈ news') : SdsIn news' ps n ys := fun k v e => (h k v e).mono hs
theorem SdsIn.snoc {news : List (Addr × Obj)} {ps : List (Int × Int)} {n : Nat} {ys : List Value} {y : Value} (h : SdsIn news ps n ys) (hy : SdAt news y (sdLo ps n ys.length) (sdHi ps n ys.length)) : SdsIn news ps n (ys ++ [y]) := fun k v e => by
  by_cases hk : k < ys.length
  · rw [List.getElem?_append_left hk] at e; exact h k v e
  · rw [List.getElem?_append_right (Nat.le_of_not_lt hk)] at e
    have h0 : k - ys.length = 0 := by
      cases hz : k - ys.length with
      | zero => rfl
      | succ j => rw [hz] at e; simp at e
    have hk' : k = ys.length := by omega
    subst hk'
    simp at e
    exact e ▸ hy
theorem memR {α : Type} {x : α} {a b : List α} (h : List.Mem x b) : List.Mem x (a ++ b) := List.mem_append_right a h
theorem off_ne {l : List (Addr × Obj)} {a b c : Addr} (h : ∀ p ∈ l, @LT.lt Nat _ p.1 a ∨ @LT.lt Nat _ b p.1) (h1 : @LE.le Nat _ a c) (h2 : @LE.le Nat _ c b) : ∀ p ∈ l, p.1 ≠ c := fun p hp e => by
  rcases h p hp with q | q
  · rw [e] at q; exact Nat.lt_irrefl _ (Nat.lt_of_lt_of_le q h1)
  · rw [e] at q; exact Nat.lt_irrefl _ (Nat.lt_of_lt_of_le q h2)
def SideInv (hi : Addr) (base rest : List (Addr × Obj)) (ps : List (Int × Int)) (n : Nat) (_i : Nat) (ys : List Value) (nw : List (Addr × Obj)) : Prop :=
  ∃ add, nw = add ++ base ∧ (∀ p ∈ add, @LT.lt Nat _ hi p.1) ∧ SdsIn (add ++ rest) ps n ys
theorem side_elem {h₀ h' : Heap} {L : Addr} {m : Str → Option Value} {I C D Dt a b hi : Addr} {oI oC : Obj} {ys : List Value} {add base rest : List (Addr × Obj)} {m1 m2 : Addr × Obj} {ps : List (Int × Int)} {n i : Nat} {k : Int} {kk : Nat} {t1 t2 t3 t4 : Tok} {n1 n2 : Nat} {s₁ : Shared} {tk' : Nat}
    (F : Fr h₀ L h' m) (N : News h₀ L h' ((Dt, tup [if lexlt (ptAt ps k).1 (ptAt ps k).2 (ptAt ps i).1 (ptAt ps i).2 = true then .ref b else .ref a, if lexlt (ptAt ps k).1 (ptAt ps k).2 (ptAt ps i).1 (ptAt ps i).2 = true then .ref a else .ref b] kk) :: m1 :: m2 :: (I, oI) :: (C, oC) :: (D, LCg.lst ys) :: (add ++ base)))
    (lt : m1.1 < Dt ∧ m2.1 < Dt ∧ I < Dt ∧ C < Dt ∧ D < Dt ∧ AllLt Dt (add ++ base)) (ha : (a, tup [.int (ptAt ps i).1 t1, .int (ptAt ps i).2 t2] n1) ∈ rest) (hb : (b, tup [.int (ptAt ps k).1 t3, .int (ptAt ps k).2 t4] n2) ∈ rest)
    (hk : k = (((i + 1) % n : Nat) : Int)) (off : LCg.Off3 I C D (add ++ base)) (hhi : ∃ o, (hi, o) ∈ base) (hadd : ∀ p ∈ add, @LT.lt Nat _ hi p.1) (hsd : SdsIn (add ++ rest) ps n ys) (hl : ys.length = i) :
    ElemEnd h₀ L m I oI C oC D ys (SideInv hi base rest ps n (i + 1)) s₁ (.ref Dt) { s₁ with heap := h', toks := tk' } := by
  subst hk
  subst hl
  obtain ⟨l1, l2, l3, l4, l5, l6⟩ := lt
  obtain ⟨oh, hm⟩ := hhi
  have hlt := ktn_ltOf l6 _ (List.mem_append_right _ hm)
  refine ⟨h', tk', ((Dt, tup [if lexlt (ptAt ps (((ys.length + 1) % n : Nat) : Int)).1 (ptAt ps (((ys.length + 1) % n : Nat) : Int)).2 (ptAt ps ys.length).1 (ptAt ps ys.length).2 = true then .ref b else .ref a, if lexlt (ptAt ps (((ys.length + 1) % n : Nat) : Int)).1 (ptAt ps (((ys.length + 1) % n : Nat) : Int)).2 (ptAt ps ys.length).1 (ptAt ps ys.length).2 = true then .ref a else .ref b] kk) :: add) ++ base, rfl, F, fun p hp => N p ?_, ⟨⟨Nat.ne_of_gt l3, Nat.ne_of_gt l4, Nat.ne_of_gt l5⟩, off⟩, _, rfl, ?_, ?_⟩
  · simp only [List.mem_cons, List.cons_append] at hp ⊢
    rcases hp with rfl | rfl | rfl | rfl | hp
    · simp
    · simp
    · simp
    · simp
    · simp [hp]
  · intro p hp
    rcases List.mem_cons.mp hp with rfl | hp
    · exact hlt
    · exact hadd p hp
  · refine (hsd.mono fun e he => .tail _ he).snoc ?_
    unfold sdLo sdHi
    dsimp only
    cases hc : lexlt (ptAt ps (((ys.length + 1) % n : Nat) : Int)).1 (ptAt ps (((ys.length + 1) % n : Nat) : Int)).2 (ptAt ps ys.length).1 (ptAt ps ys.length).2 with
    | true => exact ⟨Dt, b, a, _, _, _, _, _, _, _, rfl, .head _, .tail _ (List.mem_append_right _ hb), .tail _ (List.mem_append_right _ ha)⟩
    | false => exact ⟨Dt, a, b, _, _, _, _, _, _, _, rfl, .head _, .tail _ (List.mem_append_right _ ha), .tail _ (List.mem_append_right _ hb)⟩
section
variable {prog : Program} {w : World} {A : Around} {E : Value → Shared → Prop} {s : Shared} {h₀ : Heap} {L : Addr} {m : Str → Option Value} {news news₂ : List (Addr × Obj)} {Q : Value → Shared → Prop} {l : Addr} {ys : List Value} {n : Nat} {ps : List (Int × Int)}
theorem side_item {value slice : PySem.Expr} {k : Nat} {u : Tok} (N : News h₀ L s.heap news) (hm : (l, LCg.lst ys) ∈ news) (hp : SdsIn news₂ ps n ys) (h1 : k < ys.length) (hfit : ys.length < 2 ^ 20)
    (h : ∀ o a b t1 t2 t3 t4 n1 n2 n3, (o, tup [.ref a, .ref b] n1) ∈ news₂ → (a, tup [.int (sdLo ps n k).1 t1, .int (sdLo ps n k).2 t2] n2) ∈ news₂ → (b, tup [.int (sdHi ps n k).1 t3, .int (sdHi ps n k).2 t4] n3) ∈ news₂ → Q (.ref o) s)
    (hs : subscripted slice false (.ref l) (.int (k : Int) u) = operate [.ref l, .int (k : Int) u] (getItem (.ref l) (.int (k : Int) u)) := by with_unfolding_all rfl) :
    wpAny (model prog w) A (subscriptTail value slice (.ref l) (.int (k : Int) u)) Q E s := by
  have hl : s.heap.IsList l ys.toArray := ⟨_, (N _ hm).1, rfl, _, rfl⟩
  obtain ⟨o, a, b, t1, t2, t3, t4, n1, n2, n3, e, m1, m2, m3⟩ := hp k ys[k] (List.getElem?_eq_getElem h1)
  refine tail_any hl.typeIs slot_list_getitem.lookup (wpAny_getItem_list hl (by omega) (by omega) (x := .ref o) ?_ (h o a b t1 t2 t3 t4 n1 n2 n3 m1 m2 m3)) hs
  rw [← e]
  simp [h1]
end
theorem sd_grid {ps : List (Int × Int)} {n k : Nat} (hg : ∀ p ∈ ps, Grid p) (hn : n = ps.length) (hk : k < n) : Grid (sdLo ps n k) ∧ Grid (sdHi ps n k) := by
  subst hn
  have h1 : ptAt ps k ∈ ps := ptAt_mem (by omega) (by omega)
  have h2 : ptAt ps (((k + 1) % ps.length : Nat) : Int) ∈ ps := ptAt_mem (by omega) (by have := Nat.mod_lt (k + 1) (show 0 < ps.length by omega); omega)
  unfold sdLo sdHi
  dsimp only
  split
  · exact ⟨hg _ h2, hg _ h1⟩
  · exact ⟨hg _ h1, hg _ h2⟩
def adjN (n i j : Nat) : Int := if j = i + 1 ∨ (i = 0 ∧ j + 1 = n) then 1 else 0
section
variable {n i j : Nat} {c : Int}
theorem adj1 (h : (j : Int) = i + 1) (hc : c = 1) : c = adjN n i j := by unfold adjN; rw [if_pos (Or.inl (by omega)), hc]
theorem adj2 (h : (i : Int) = 0) (h2 : (j : Int) = n - 1) (hc : c = 1) : c = adjN n i j := by unfold adjN; rw [if_pos (Or.inr ⟨by omega, by omega⟩), hc]
theorem adj3 (h0 : (j : Int) ≠ i + 1) (_h : (i : Int) = 0) (h2 : (j : Int) ≠ n - 1) (hc : c = 0) : c = adjN n i j := by unfold adjN; rw [if_neg (by omega), hc]
theorem adj4 (h0 : (j : Int) ≠ i + 1) (h : (i : Int) ≠ 0) (hc : c = 0) : c = adjN n i j := by unfold adjN; rw [if_neg (by omega), hc]
end
theorem turn_next {σ : Type} {h₀ h' : Heap} {L I : Addr} {oI : Obj} {m' : Str → Option Value} {news' : List (Addr × Obj)} {Led : σ → List (Addr × Obj)} {Inv' : σ → Prop} {s₁ : Shared} {tk' : Nat} (c : σ) (F : Fr h₀ L h' m') (N : News h₀ L h' news') (hs : ∀ p ∈ (I, oI) :: Led c, p ∈ news') (off : LCg.Off1 I (Led c)) (hi : Inv' c) :
    TurnNext h₀ L Led Inv' I oI s₁ { s₁ with heap := h', toks := tk' } := ⟨h', tk', m', c, rfl, hi, F, fun p hp => N p (hs p hp), off⟩
theorem drop_rest {α : Type} {e : α} {rest led : List α} (he : e ∈ led) (h : ∀ p ∈ rest, p ∈ led) : ∀ p ∈ e :: rest, p ∈ led := fun p hp => (List.mem_cons.mp hp).elim (fun q => q ▸ he) (h p)
end Mine
end
section
open PySem PySem.W PyProof.Rows
set_option Elab.async false
set_option maxRecDepth 100000
namespace Mine
def uponB (x1 y1 x2 y2 x3 y3 : Int) : Bool := lexle x1 y1 x3 y3 && lexle x3 y3 x2 y2 && (sg (crs x1 y1 x2 y2 x3 y3) == 0)
theorem news4 {h₀ h : Heap} {L : Addr} {news : List (Addr × Obj)} {e1 e2 e3 e4 : Addr × Obj} (N : News h₀ L h news) (h1 : e1 ∈ news) (h2 : e2 ∈ news) (h3 : e3 ∈ news) (h4 : e4 ∈ news) : News h₀ L h (e1 :: e2 :: e3 :: e4 :: news) := by
  intro p hp
  simp only [List.mem_cons] at hp
  rcases hp with rfl | rfl | rfl | rfl | hp
  · exact N _ h1
  · exact N _ h2
  · exact N _ h3
  · exact N _ h4
  · exact N _ hp
theorem upon_a {x1 y1 x2 y2 x3 y3 : Int} (h1 : lexle x1 y1 x3 y3 = true) (h2 : lexle x3 y3 x2 y2 = true) : (sg (crs x1 y1 x2 y2 x3 y3) == 0) = uponB x1 y1 x2 y2 x3 y3 := by rw [uponB, h1, h2]; rfl
theorem upon_b {x1 y1 x2 y2 x3 y3 : Int} (h1 : lexle x1 y1 x3 y3 = true) (h2 : lexle x3 y3 x2 y2 = false) : lexle x3 y3 x2 y2 = uponB x1 y1 x2 y2 x3 y3 := by rw [uponB, h1, h2]; rfl
theorem upon_c {x1 y1 x2 y2 x3 y3 : Int} (h1 : lexle x1 y1 x3 y3 = false) : lexle x1 y1 x3 y3 = uponB x1 y1 x2 y2 x3 y3 := by rw [uponB, h1]; rfl
set_option maxHeartbeats 8000000 in
theorem upon_ok {w : World} {p : Program} {loose : List Str} {mean : ExcName → Option Value} {mg mb : Str → Option Value}
  {dp un : Nat} {gd : Option (List Code)} {cn : Str} {cs : Scope} {la : Addr} {ccd : Value} {cl : List (Str × Addr)} {outer : List Env} {A₀ : Around} {base h₀ : Heap} {L : Addr} {m : Str → Option Value} {s : Shared} {Q E : Value → Shared → Prop}
  {rest : List (Addr × Obj)} {o a b q : Addr} {x1 y1 x2 y2 x3 y3 : Int} {t1 t2 t3 t4 t5 t6 : Tok} {n1 n2 n3 n4 : Nat}
  (B : Below A₀ base outer h₀) (F : Fr h₀ L s.heap m) (X : (Mine.hd.heap_1 w.params).In h₀)
  (N : News h₀ L s.heap ((o, tup [.ref a, .ref b] n1) :: (a, tup [.int x1 t1, .int y1 t2] n2) :: (b, tup [.int x2 t3, .int y2 t4] n3) :: (q, tup [.int x3 t5, .int y3 t6] n4) :: rest))
  (T : Top p loose mean mg mb h₀) (hk : cs.kind = .function) (hd : dp + 2 < recursionLimit) (hu : un + 16 < cLine)
  (b1 : 0 ≤ x1 ∧ x1 ≤ 4) (b2 : 0 ≤ y1 ∧ y1 ≤ 4) (b3 : 0 ≤ x2 ∧ x2 ≤ 4) (b4 : 0 ≤ y2 ∧ y2 ≤ 4) (b5 : 0 ≤ x3 ∧ x3 ≤ 4) (b6 : 0 ≤ y3 ∧ y3 ≤ 4)
  (hret : ∀ (t : Tok) h' tk', Fr h₀ L h' m → News h₀ L h' rest → Q (.bool (uponB x1 y1 x2 y2 x3 y3)) { s with heap := h', toks := tk' }) :
  wpAny (model PySem.Challenge.rw_ja0044_01.row.prog w) (ktrTop dp un gd cn cs L la ccd cl outer) (call (.ref 291) [.ref o, .ref q]) Q E s := by
  k_with_none
  (k_with "call ref" => (k_here; (with_reducible show wpAny _ _ (call (Value.ref 284) [Value.ref _, Value.ref _]) _ _ _); k_dflt (refine' side_ok ?zW0k1 ?zW0k2 ?zW0k3 ?zW0k4 ?zW0k5 ?zW0kK ?zW0kd ?zW0ku ?zW0b1 ?zW0b2 ?zW0b3 ?zW0b4 ?zW0b5 ?zW0b6 ?_; (case zW0k1 => k_asm); (case zW0k2 => k_asm); (case zW0k3 => k_asm); (case zW0k4 => exact news4 (by k_asm) (by k_mem) (by k_mem) (by k_mem) (by k_mem)); (case zW0k5 => k_asm); (case zW0kK => first | exact rfl | assumption); (case zW0kd => ktr_room); (case zW0ku => ktr_units); (case zW0b1 => omega); (case zW0b2 => omega); (case zW0b3 => omega); (case zW0b4 => omega); (case zW0b5 => omega); (case zW0b6 => omega); k_whole); intro _ _ _ _ _; (try dsimp only)))
  (k_with "compareOp LtE ref ref" => (k_here; k_dflt (refine' pair_le ?zW1k1 ?zW1k2 ?zW1k3 ?_; (case zW1k1 => exact News.get (by k_asm) (by k_mem)); (case zW1k2 => exact News.get (by k_asm) (by k_mem)); (case zW1k3 => ktr_units))))
  revert X; k_fill; intro X
  refine wpAny_call ?_
  k_dflt cell_enter
  k_steps
  all_goals exact cb_retB (Q := Q) (fun t h' tk' F N => hret t h' tk' F N) (by first | exact upon_a (by assumption) (by assumption) | exact upon_b (by assumption) (by assumption) | exact upon_c (by assumption)) (by k_asm) (cb_drop (by assumption) (fun p hp => by simp only [List.mem_cons, hp, or_true]))
end Mine
end
section
open PySem PySem.W PyProof.Rows
set_option Elab.async false
set_option maxRecDepth 100000
namespace Mine
def apartB (x1 y1 x2 y2 x3 y3 x4 y4 : Int) : Bool :=
  apartF (eqp x3 y3 x1 y1 || eqp x4 y4 x1 y1) (eqp x3 y3 x2 y2 || eqp x4 y4 x2 y2)
    (!((eqp x3 y3 x1 y1 || eqp x4 y4 x1 y1) && eqp x1 y1 x1 y1 || (eqp x3 y3 x2 y2 || eqp x4 y4 x2 y2) && eqp x2 y2 x1 y1) && uponB x3 y3 x4 y4 x1 y1)
    (!((eqp x3 y3 x1 y1 || eqp x4 y4 x1 y1) && eqp x1 y1 x2 y2 || (eqp x3 y3 x2 y2 || eqp x4 y4 x2 y2) && eqp x2 y2 x2 y2) && uponB x3 y3 x4 y4 x2 y2)
    (!((eqp x3 y3 x1 y1 || eqp x4 y4 x1 y1) && eqp x1 y1 x3 y3 || (eqp x3 y3 x2 y2 || eqp x4 y4 x2 y2) && eqp x2 y2 x3 y3) && uponB x1 y1 x2 y2 x3 y3)
    (!((eqp x3 y3 x1 y1 || eqp x4 y4 x1 y1) && eqp x1 y1 x4 y4 || (eqp x3 y3 x2 y2 || eqp x4 y4 x2 y2) && eqp x2 y2 x4 y4) && uponB x1 y1 x2 y2 x4 y4)
    (sg (crs x1 y1 x2 y2 x3 y3) * sg (crs x1 y1 x2 y2 x4 y4)) (sg (crs x3 y3 x4 y4 x1 y1) * sg (crs x3 y3 x4 y4 x2 y2))
local macro_rules | `(tactic| walk_at "mine enterC") => `(tactic| (refine' code_defC ?k1 ?k2 ?k3 ?k4 ?k5 ?kA ?kF ?kK ?k6 ?k7 ?k8 ?k9 ?kB ?kD ?_ ?c2 ?c3 ?c4; (case kA => exact rfl); (case kF => exact rfl); (case kK => assumption); (case k1 => k_asm); (case k2 => k_asm); (case k3 => k_asm); (case k4 => k_asm); (case k5 => k_asm); (case k6 => k_is); (case k7 => k_is); (case k8 => ktr_room); (case k9 => exact BindsTo.of_eq rfl); (case kB => exact rfl); (case kD => decide +kernel); (case c2 => exact rfl); (case c3 => exact rfl); (case c4 => exact rfl); k_whole; intro g' L' h' tk' cells' FG' F' N' Y' B' X' T' l1; (have hA9 := allLt_of l1); (try k_lt l1); k_cells Y'; (try simp only [List.cons_append, List.nil_append] at N'); (try dsimp only); (try k_lift B'); (try k_fold)))
local macro_rules | `(tactic| k_all) => `(tactic| (refine' all_ne ?ha ?hb; (case ha => assumption); (case hb => omega)))
set_option maxHeartbeats 8000000 in
theorem apart_ok {w : World} {p : Program} {loose : List Str} {mean : ExcName → Option Value} {mg mb : Str → Option Value}
  {dp un : Nat} {gd : Option (List Code)} {cn : Str} {cs : Scope} {la : Addr} {ccd : Value} {cl : List (Str × Addr)} {outer : List Env} {A₀ : Around} {base h₀ : Heap} {L : Addr} {m : Str → Option Value} {s : Shared} {Q E : Value → Shared → Prop}
  {rest : List (Addr × Obj)} {o r a b c d : Addr} {x1 y1 x2 y2 x3 y3 x4 y4 : Int} {t1 t2 t3 t4 t5 t6 t7 t8 : Tok} {n1 n2 n3 n4 n5 n6 : Nat}
  (B : Below A₀ base outer h₀) (F : Fr h₀ L s.heap m) (X : (Mine.hd.heap_1 w.params).In h₀)
  (N : News h₀ L s.heap ((o, tup [.ref a, .ref b] n1) :: (r, tup [.ref c, .ref d] n2) :: (a, tup [.int x1 t1, .int y1 t2] n3) :: (b, tup [.int x2 t3, .int y2 t4] n4) :: (c, tup [.int x3 t5, .int y3 t6] n5) :: (d, tup [.int x4 t7, .int y4 t8] n6) :: rest))
  (T : Top p loose mean mg mb h₀) (hk : cs.kind = .function) (hd : dp + 3 < recursionLimit) (hu : un + 124 < cLine)
  (b1 : 0 ≤ x1 ∧ x1 ≤ 4) (b2 : 0 ≤ y1 ∧ y1 ≤ 4) (b3 : 0 ≤ x2 ∧ x2 ≤ 4) (b4 : 0 ≤ y2 ∧ y2 ≤ 4) (b5 : 0 ≤ x3 ∧ x3 ≤ 4) (b6 : 0 ≤ y3 ∧ y3 ≤ 4) (b7 : 0 ≤ x4 ∧ x4 ≤ 4) (b8 : 0 ≤ y4 ∧ y4 ≤ 4)
  (hret : ∀ (t : Tok) h' tk', Fr h₀ L h' m → News h₀ L h' rest → Q (.bool (apartB x1 y1 x2 y2 x3 y3 x4 y4)) { s with heap := h', toks := tk' }) :
  wpAny (model PySem.Challenge.rw_ja0044_01.row.prog w) (ktrTop dp un gd cn cs L la ccd cl outer) (call (.ref 296) [.ref o, .ref r]) Q E s := by
  k_with_none
  (k_with "call ref" => (k_here; (with_reducible show wpAny _ _ (call (Value.ref 284) [Value.ref _, Value.ref _]) _ _ _); k_dflt (refine' side_ok ?zW0k1 ?zW0k2 ?zW0k3 ?zW0k4 ?zW0k5 ?zW0kK ?zW0kd ?zW0ku ?zW0b1 ?zW0b2 ?zW0b3 ?zW0b4 ?zW0b5 ?zW0b6 ?_; (case zW0k1 => k_asm); (case zW0k2 => k_asm); (case zW0k3 => k_asm); (case zW0k4 => exact news4 (by k_asm) (by k_mem) (by k_mem) (by k_mem) (by k_mem)); (case zW0k5 => k_asm); (case zW0kK => first | exact rfl | assumption); (case zW0kd => ktr_room); (case zW0ku => ktr_units); (case zW0b1 => omega); (case zW0b2 => omega); (case zW0b3 => omega); (case zW0b4 => omega); (case zW0b5 => omega); (case zW0b6 => omega); k_whole); intro _ _ _ _ _; (try dsimp only)))
  (k_with "call ref" => (k_here; (with_reducible show wpAny _ _ (call (Value.ref 291) [Value.ref _, Value.ref _]) _ _ _); k_dflt (refine' upon_ok ?zW1k1 ?zW1k2 ?zW1k3 ?zW1k4 ?zW1k5 ?zW1kK ?zW1kd ?zW1ku ?zW1b1 ?zW1b2 ?zW1b3 ?zW1b4 ?zW1b5 ?zW1b6 ?_; (case zW1k1 => k_asm); (case zW1k2 => k_asm); (case zW1k3 => k_asm); (case zW1k4 => exact news4 (by k_asm) (by k_mem) (by k_mem) (by k_mem) (by k_mem)); (case zW1k5 => k_asm); (case zW1kK => first | exact rfl | assumption); (case zW1kd => ktr_room); (case zW1ku => ktr_units); (case zW1b1 => omega); (case zW1b2 => omega); (case zW1b3 => omega); (case zW1b4 => omega); (case zW1b5 => omega); (case zW1b6 => omega); k_whole); intro _ _ _ _ _; (try dsimp only)))
  (k_with "compareOp In ref ref" => (k_here; k_dflt (refine' in_pair ?zW2k1 ?zW2k2 ?zW2k3 ?zW2k4 ?zW2k5 ?_; (case zW2k1 => exact News.get (by k_asm) (by k_mem)); (case zW2k2 => exact News.get (by k_asm) (by k_mem)); (case zW2k3 => exact News.get (by k_asm) (by k_mem)); (case zW2k4 => exact News.get (by k_asm) (by k_mem)); (case zW2k5 => ktr_units))))
  (k_with "compareOp NotIn ref ref" => (k_here; k_dflt (refine' notIn_pick ?zW3k1 ?zW3k2 ?zW3k3 ?zW3k4 ?zW3k5 ?_; (case zW3k1 => exact News.get (by k_asm) (by k_mem)); (case zW3k2 => exact News.get (by k_asm) (by k_mem)); (case zW3k3 => exact News.get (by k_asm) (by k_mem)); (case zW3k4 => exact News.get (by k_asm) (by k_mem)); (case zW3k5 => ktr_units))))
  (k_with "compareOp NotEq ref ref" => (k_here; k_dflt (refine' ne_nil ?zW4k1 ?zW4k2 ?zW4k3 ?zW4k4 ?zW4k5 ?_; (case zW4k1 => exact News.get (by k_asm) (by k_mem)); (case zW4k2 => exact News.get (by k_asm) (by k_mem)); (case zW4k3 => exact News.get (by k_asm) (by k_mem)); (case zW4k4 => exact News.get (by k_asm) (by k_mem)); (case zW4k5 => ktr_units))))
  (k_with "call builtin:len" => (k_here; k_dflt (refine' len_pick ?zW5k1 ?_; (case zW5k1 => exact News.get (by k_asm) (by k_mem)))))
  (k_with "eval ListComp" => (with_reducible refine hold ?_))
  obtain ⟨c0, hc0⟩ : ∃ c0, c0 = (eqp x3 y3 x1 y1 || eqp x4 y4 x1 y1) := ⟨_, rfl⟩
  obtain ⟨c1, hc1⟩ : ∃ c1, c1 = (eqp x3 y3 x2 y2 || eqp x4 y4 x2 y2) := ⟨_, rfl⟩
  obtain ⟨d0, hd0⟩ : ∃ d0, d0 = (!(c0 && eqp x1 y1 x1 y1 || c1 && eqp x2 y2 x1 y1) && uponB x3 y3 x4 y4 x1 y1) := ⟨_, rfl⟩
  obtain ⟨d1, hd1⟩ : ∃ d1, d1 = (!(c0 && eqp x1 y1 x2 y2 || c1 && eqp x2 y2 x2 y2) && uponB x3 y3 x4 y4 x2 y2) := ⟨_, rfl⟩
  obtain ⟨e0, he0⟩ : ∃ e0, e0 = (!(c0 && eqp x1 y1 x3 y3 || c1 && eqp x2 y2 x3 y3) && uponB x1 y1 x2 y2 x3 y3) := ⟨_, rfl⟩
  obtain ⟨e1, he1⟩ : ∃ e1, e1 = (!(c0 && eqp x1 y1 x4 y4 || c1 && eqp x2 y2 x4 y4) && uponB x1 y1 x2 y2 x4 y4) := ⟨_, rfl⟩
  have hAP : apartB x1 y1 x2 y2 x3 y3 x4 y4 = apartF c0 c1 d0 d1 e0 e1 (sg (crs x1 y1 x2 y2 x3 y3) * sg (crs x1 y1 x2 y2 x4 y4)) (sg (crs x3 y3 x4 y4 x1 y1) * sg (crs x3 y3 x4 y4 x2 y2)) := by rw [hd0, hd1, he0, he1, hc0, hc1]; rfl
  rw [hAP] at hret
  revert X; k_fill; intro X
  refine wpAny_call ?_
  k_dflt (walk_at "mine enterC")
  have hs1 := sg_bd (crs x1 y1 x2 y2 x3 y3)
  have hs2 := sg_bd (crs x1 y1 x2 y2 x4 y4)
  have hs3 := sg_bd (crs x3 y3 x4 y4 x1 y1)
  have hs4 := sg_bd (crs x3 y3 x4 y4 x2 y2)
  have hR := allLt_tl6 (l := rest) (by assumption)
  k_steps
  unfold Hold
  refine comp2 c0 c1 (by k_asm) (by with_unfolding_all rfl) (by decide) (by rfl) (by decide) (by rfl) (by decide) (by rfl) ?_
  k_steps
  refine ⟨_, _, _, _, _, rfl, by k_asm, by k_asm, by k_mem, ?_, ?_, ?_⟩
  · intro I oI C oC D oD m₂ h tk Q' E' hC hx F' N' hq'
    rw [hc0] at hq'
    k_steps
    exact hq' _ _ (by k_asm) (by k_asm)
  · intro I oI C oC D oD m₂ h tk Q' E' hC hx F' N' hq'
    rw [hc1] at hq'
    k_steps
    exact hq' _ _ (by k_asm) (by k_asm)
  intro D h tk F9 N9 o1
  simp only [LCg.Off1, and_true] at o1
  (try dsimp only); try k_fold
  k_steps
  · exact cb_retB (Q := Q) (fun t h' tk' F N => hret t h' tk' F N) (ap1 (by assumption)) (by k_asm) (cb_drop (by assumption) (fun p hp => by simp only [List.mem_cons, hp, or_true]))
  unfold Hold
  refine comp2 d0 d1 (by k_asm) (by with_unfolding_all rfl) (by decide) (by rfl) (by decide) (by rfl) (by decide) (by rfl) ?_
  k_steps
  refine ⟨_, _, _, _, _, rfl, by k_asm, by k_asm, by k_mem, ?_, ?_, ?_⟩
  · intro I oI C oC D oD m₂ h tk Q' E' hC hx F' N' hq'
    rw [hd0] at hq'
    k_steps
    all_goals exact qb (Q := Q') (hq' _ _ (by k_asm) (by k_asm)) (by first | exact t2_a (by assumption) | exact t2_b (by assumption) (by assumption) | exact t2_c (by assumption) (by assumption))
  · intro I oI C oC D oD m₂ h tk Q' E' hC hx F' N' hq'
    rw [hd1] at hq'
    k_steps
    all_goals exact qb (Q := Q') (hq' _ _ (by k_asm) (by k_asm)) (by first | exact t2_a (by assumption) | exact t2_b (by assumption) (by assumption) | exact t2_c (by assumption) (by assumption))
  intro D h tk F9 N9 o2
  simp only [LCg.Off1] at o2
  (try dsimp only); try k_fold
  k_steps
  · exact cb_retB (Q := Q) (fun t h' tk' F N => hret t h' tk' F N) (ap2 (by assumption) (by assumption)) (by k_asm) (cb_drop (by assumption) (fun p hp => by simp only [List.mem_cons, hp, or_true]))
  unfold Hold
  refine comp2 e0 e1 (by k_asm) (by with_unfolding_all rfl) (by decide) (by rfl) (by decide) (by rfl) (by decide) (by rfl) ?_
  k_steps
  refine ⟨_, _, _, _, _, rfl, by k_asm, by k_asm, by k_mem, ?_, ?_, ?_⟩
  · intro I oI C oC D oD m₂ h tk Q' E' hC hx F' N' hq'
    rw [he0] at hq'
    k_steps
    all_goals exact qb (Q := Q') (hq' _ _ (by k_asm) (by k_asm)) (by first | exact t2_a (by assumption) | exact t2_b (by assumption) (by assumption) | exact t2_c (by assumption) (by assumption))
  · intro I oI C oC D oD m₂ h tk Q' E' hC hx F' N' hq'
    rw [he1] at hq'
    k_steps
    all_goals exact qb (Q := Q') (hq' _ _ (by k_asm) (by k_asm)) (by first | exact t2_a (by assumption) | exact t2_b (by assumption) (by assumption) | exact t2_c (by assumption) (by assumption))
  intro D h tk F9 N9 o3
  simp only [LCg.Off1] at o3
  (try dsimp only); try k_fold
  k_steps
  all_goals exact cb_retB (Q := Q) (fun t h' tk' F N => hret t h' tk' F N) (by first | exact ap3 (by assumption) (by assumption) (by assumption) | exact ap4 (by assumption) (by assumption) (by assumption) (by assumption) | exact ap5 (by assumption) (by assumption) (by assumption) (by assumption) (by assumption) | exact ap6 (by assumption) (by assumption) (by assumption) (by assumption) (by assumption)) (by k_asm) (cb_drop (by assumption) (fun p hp => by simp only [List.mem_cons, hp, or_true]))
end Mine
end
section
open PySem PySem.W PyProof.Rows
set_option Elab.async false
set_option maxRecDepth 100000
namespace Mine
local macro_rules | `(tactic| k_mem) => `(tactic| first | assumption | ((with_reducible refine' memR ?_); k_mem))
local macro_rules | `(tactic| k_all) => `(tactic| (refine' off_ne ?ha ?hb ?hc; (case ha => assumption); (case hb => omega); (case hc => omega)))
local macro_rules | `(tactic| k_all) => `(tactic| (refine' all_ne ?ha ?hb; (case ha => assumption); (case hb => omega)))
theorem news6 {h₀ h : Heap} {L : Addr} {news : List (Addr × Obj)} {e1 e2 e3 e4 e5 e6 : Addr × Obj} (N : News h₀ L h news) (h1 : e1 ∈ news) (h2 : e2 ∈ news) (h3 : e3 ∈ news) (h4 : e4 ∈ news) (h5 : e5 ∈ news) (h6 : e6 ∈ news) : News h₀ L h (e1 :: e2 :: e3 :: e4 :: e5 :: e6 :: news) := by
  intro p hp
  simp only [List.mem_cons] at hp
  rcases hp with rfl | rfl | rfl | rfl | rfl | rfl | hp
  · exact N _ h1
  · exact N _ h2
  · exact N _ h3
  · exact N _ h4
  · exact N _ h5
  · exact N _ h6
  · exact N _ hp
def apS (a b c d : Int × Int) : Bool := apartB a.1 a.2 b.1 b.2 c.1 c.2 d.1 d.2
def comS (a b c d : Int × Int) : Int := cnt2 (eqp c.1 c.2 a.1 a.2 || eqp d.1 d.2 a.1 a.2) (eqp c.1 c.2 b.1 b.2 || eqp d.1 d.2 b.1 b.2)
def PairOk (ps : List (Int × Int)) (n i j : Nat) : Prop := apS (sdLo ps n i) (sdHi ps n i) (sdLo ps n j) (sdHi ps n j) = true ∧ comS (sdLo ps n i) (sdHi ps n i) (sdLo ps n j) (sdHi ps n j) = adjN n i j
def SimpleOk (ps : List (Int × Int)) : Prop := 2 < ps.length ∧ ∀ j < ps.length, ∀ i < j, PairOk ps ps.length i j
set_option maxHeartbeats 8000000 in
theorem simple_ok {w : World} {p : Program} {loose : List Str} {mean : ExcName → Option Value} {mg mb : Str → Option Value}
  {dp un : Nat} {gd : Option (List Code)} {cn : Str} {cs : Scope} {la : Addr} {ccd : Value} {cl : List (Str × Addr)} {outer : List Env} {A₀ : Around} {base h₀ : Heap} {L : Addr} {m : Str → Option Value} {s : Shared} {Q E : Value → Shared → Prop}
  {rest : List (Addr × Obj)} {l : Addr} {n : Nat} {vs : List Value} {ps : List (Int × Int)}
  (B : Below A₀ base outer h₀) (F : Fr h₀ L s.heap m) (X : (Mine.hd.heap_1 w.params).In h₀)
  (N : News h₀ L s.heap ((l, listOf vs.toArray n) :: rest)) (hp : Pts rest vs ps) (hg : ∀ p ∈ ps, Grid p) (h7 : vs.length ≤ 7)
  (T : Top p loose mean mg mb h₀) (hk : cs.kind = .function) (hd : dp + 4 < recursionLimit) (hu : un + 200 < cLine)
  (hret : ∀ (b : Bool) h' tk', (b = true → SimpleOk ps) → Fr h₀ L h' m → News h₀ L h' ((l, listOf vs.toArray n) :: rest) → Q (.bool b) { s with heap := h', toks := tk' }) :
  wpAny (model PySem.Challenge.rw_ja0044_01.row.prog w) (ktrTop dp un gd cn cs L la ccd cl outer) (call (.ref 308) [.ref l]) Q E s := by
  k_with_none
  (k_with "call builtin:len" => (k_here; k_dflt (refine' len_vs ?zW0k1 ?zW0k2 ?zW0k3 ?_; (case zW0k1 => k_asm); (case zW0k2 => k_mem); (case zW0k3 => omega))))
  (k_with "subscriptTail" => (k_here; (with_reducible show wpAny _ _ (subscriptTail _ _ (Value.ref _) (Value.int _ _)) _ _ _); k_dflt (refine' ring_item ?zW1k1 ?zW1k2 ?zW1k3 ?zW1k4 ?zW1k5 ?zW1k6 ?_ ?zW1k7; (case zW1k1 => k_asm); (case zW1k2 => k_mem); (case zW1k3 => assumption); (case zW1k4 => first | omega | assumption); (case zW1k5 => first | omega | assumption); (case zW1k6 => omega); (case zW1k7 => with_unfolding_all rfl); k_whole); intro _ _ _ _ _))
  (k_with "call builtin:sorted" => (k_here; k_dflt (refine' sorted_two ?zW2k1 ?zW2k2 ?zW2k3 ?zW2k4 ?zW2k5 ?_; (case zW2k1 => k_asm); (case zW2k2 => k_asm); (case zW2k3 => exact News.isList (by k_asm) (by k_mem)); (case zW2k4 => k_mem); (case zW2k5 => k_mem); k_whole); intro _ _ _ _ _ l9; (try k_lt l9); (try k_sweep); (try (revert l9; intro _))))
  (k_with "call type:tuple" => (k_here; k_dflt (refine' tup_two ?zW3k1 ?zW3k2 ?zW3k3 ?_; (case zW3k1 => k_asm); (case zW3k2 => k_asm); (case zW3k3 => k_mem); k_whole); intro _ _ _ _ l9; (try k_lt l9); (try k_sweep); (try (revert l9; intro _))))
  (k_with "eval List" => (with_reducible refine List_ ?_))
  (k_with "eval ListComp" => (with_reducible refine hold ?_))
  (k_with "exec For" => (with_reducible refine hold ?_))
  (k_with "call ref" => (k_here; (with_reducible show wpAny _ _ (call (Value.ref 296) [Value.ref _, Value.ref _]) _ _ _); k_dflt (refine' apart_ok ?zW7k1 ?zW7k2 ?zW7k3 ?zW7k4 ?zW7k5 ?zW7kK ?zW7kd ?zW7ku ?zW7b1 ?zW7b2 ?zW7b3 ?zW7b4 ?zW7b5 ?zW7b6 ?zW7b7 ?zW7b8 ?_; (case zW7k1 => k_asm); (case zW7k2 => k_asm); (case zW7k3 => k_asm); (case zW7k4 => refine' news6 ?zW7n0 ?zW7n1 ?zW7n2 ?zW7n3 ?zW7n4 ?zW7n5 ?zW7n6; (case zW7n0 => k_asm); (case zW7n1 => k_mem); (case zW7n2 => k_mem); (case zW7n3 => k_mem); (case zW7n4 => k_mem); (case zW7n5 => k_mem); (case zW7n6 => k_mem)); (case zW7k5 => k_asm); (case zW7kK => first | exact rfl | assumption); (case zW7kd => ktr_room); (case zW7ku => ktr_units); (case zW7b1 => assumption); (case zW7b2 => assumption); (case zW7b3 => assumption); (case zW7b4 => assumption); (case zW7b5 => assumption); (case zW7b6 => assumption); (case zW7b7 => assumption); (case zW7b8 => assumption); k_whole); intro _ _ _ _ _; (try dsimp only)))
  (k_with "subscriptTail" => (k_here; (with_reducible show wpAny _ _ (subscriptTail _ _ (Value.ref _) (Value.int _ _)) _ _ _); k_dflt (refine' side_item ?zW8k1 ?zW8k2 ?zW8k3 ?zW8k4 ?zW8k5 ?_ ?zW8k7; (case zW8k1 => k_asm); (case zW8k2 => k_mem); (case zW8k3 => assumption); (case zW8k4 => omega); (case zW8k5 => omega); (case zW8k7 => with_unfolding_all rfl); k_whole); intro _ _ _ _ _ _ _ _ _ _ _ _ _))
  (k_with "TurnEnd" => (dsimp only [TurnEnd]))
  (k_with "compareOp In ref ref" => (k_here; k_dflt (refine' in_pair ?zW10k1 ?zW10k2 ?zW10k3 ?zW10k4 ?zW10k5 ?_; (case zW10k1 => exact News.get (by k_asm) (by k_mem)); (case zW10k2 => exact News.get (by k_asm) (by k_mem)); (case zW10k3 => exact News.get (by k_asm) (by k_mem)); (case zW10k4 => exact News.get (by k_asm) (by k_mem)); (case zW10k5 => ktr_units))))
  (k_with "call builtin:len" => (k_here; k_dflt (refine' len_pick ?zW11k1 ?_; (case zW11k1 => exact News.get (by k_asm) (by k_mem)))))
  revert X; k_fill; intro X
  refine wpAny_call ?_
  k_dflt (refine' code_defC ?k1 ?k2 ?k3 ?k4 ?k5 ?kA ?kF ?kK ?k6 ?k7 ?k8 ?k9 ?kB ?kD ?_ ?c2 ?c3 ?c4; (case kA => exact rfl); (case kF => exact rfl); (case kK => assumption); (case k1 => k_asm); (case k2 => k_asm); (case k3 => k_asm); (case k4 => k_asm); (case k5 => k_asm); (case k6 => k_is); (case k7 => k_is); (case k8 => ktr_room); (case k9 => exact BindsTo.of_eq rfl); (case kB => exact rfl); (case kD => decide +kernel); (case c2 => exact rfl); (case c3 => exact rfl); (case c4 => exact rfl); k_whole)
  intro g' L' h' tk' cells' FG' F' N' Y' B' X' T' l1
  have hA9 := allLt_of l1
  have hR := hA9.2
  k_lt l1
  have hY := CellsAre.four Y'
  obtain ⟨o1, o2, o3, o4, hE', d1, d2, d3, d4⟩ := hY
  subst hE'
  simp only [List.cons_append, List.nil_append] at N'
  have c4 : o4.data = .cell (some (.ref l)) := d4
  have c3 : o3.data = .cell none := d3
  have c2 : o2.data = .cell none := d2
  have c1 : o1.data = .cell none := d1
  clear d1 d2 d3 d4 hA9
  (try dsimp only); (try k_lift B'); (try k_fold)
  k_steps
  rename_i h2 om F2 N2 dm
  unfold Hold
  have hl7 : l < L' ∧ vs.length ≤ 7 := ⟨l1.1, h7⟩
  refine comp_range vs.length (SideInv (L' + 1 + 1 + 1 + 1) ((L' + 1 + 1 + 1 + 1, o1) :: (L' + 1 + 1 + 1, o2) :: (L' + 1 + 1, om) :: (L' + 1, o4) :: (l, listOf vs.toArray n) :: rest : List (Addr × Obj)) rest ps vs.length) (by k_asm) (by with_unfolding_all rfl) (by decide) (by rfl) (by decide) (by rfl) (by rfl) ?_
  k_steps
  refine ⟨_, ⟨_, _, _, _, rfl, by assumption⟩, by omega, by k_asm, by k_asm, ⟨[], rfl, (fun _ h => nomatch h), (fun k v e => nomatch e)⟩, ?_, ?_⟩
  · intro i ys nw v I oI C oC D m₂ h tk E' hi hl hI hP hC hx F9 N9 off ne
    obtain ⟨add, rfl, hadd, hsd⟩ := hI
    obtain ⟨t, rfl⟩ := hP
    have hfe : ((i : Int) + 1).fmod (vs.length : Int) = (((i + 1) % vs.length : Nat) : Int) := by
      rw [Int.fmod_eq_emod_of_nonneg _ (Int.natCast_nonneg _)]; push_cast; rfl
    have hf0 : 0 ≤ ((i : Int) + 1).fmod (vs.length : Int) := by rw [hfe]; omega
    have hf1 : ((i : Int) + 1).fmod (vs.length : Int) < vs.length := by rw [hfe]; have := Nat.mod_lt (i + 1) (show 0 < vs.length by omega); omega
    k_steps
    exact side_elem (by k_asm) (by k_asm) (by assumption) (by assumption) (by assumption) hfe off ⟨_, .head _⟩ hadd hsd hl
  · intro ys nw D h tk hyl hI F9 N9 o9
    obtain ⟨add, rfl, hadd, hsd⟩ := hI
    obtain ⟨r2, hr2⟩ : ∃ r2, r2 = add ++ rest := ⟨_, rfl⟩
    have hoR : ∀ p ∈ r2, @LT.lt Nat _ p.1 (L' + 1) ∨ @LT.lt Nat _ (L' + 1 + 1 + 1 + 1) p.1 := fun p hp => by
      rw [hr2] at hp
      rcases List.mem_append.mp hp with hp | hp
      · exact .inr (hadd p hp)
      · exact .inl (Nat.lt_succ_of_lt (ktn_ltOf hR p hp))
    have hsr : ∀ e ∈ rest, e ∈ r2 := fun e he => by rw [hr2]; exact List.mem_append_right _ he
    rw [← hr2] at hsd
    have hDo := Off1.mem o9
    have hDn : ((@Ne Nat (L' + 1 + 1 + 1 + 1) D) ∧ (@Ne Nat (L' + 1 + 1 + 1) D) ∧ (@Ne Nat (L' + 1 + 1) D) ∧ (@Ne Nat (L' + 1) D) ∧ (@Ne Nat l D)) :=
      ⟨hDo (_, o1) (by simp), hDo (_, o2) (by simp), hDo (_, om) (by simp), hDo (_, o4) (by simp), hDo (_, listOf vs.toArray n) (by simp)⟩
    have N10 : News g' L' h ((L' + 1 + 1 + 1 + 1, o1) :: (L' + 1 + 1 + 1, o2) :: (L' + 1 + 1, om) :: (L' + 1, o4) :: (D, LCg.lst ys) :: (l, listOf vs.toArray n) :: r2) := fun p hp => N9 p (by
      rw [hr2] at hp
      simp only [List.mem_cons, List.mem_append] at hp ⊢
      rcases hp with hp | hp | hp | hp | hp | hp | hp | hp <;> simp [hp])
    clear N9 hr2 hadd hDo o9
    (try dsimp only); try k_fold
    k_steps
    rename_i hS oS FS NS dS
    unfold Hold
    refine for_range (h₀ := g') (L := L') vs.length (fun oj : Obj => (L' + 1 + 1 + 1 + 1, oj) :: (L' + 1 + 1 + 1, oS) :: (L' + 1 + 1, om) :: (L' + 1, o4) :: (D, LCg.lst ys) :: (l, listOf vs.toArray n) :: r2) (fun j oj => (∃ v, oj.data = .cell v) ∧ ∀ j' < j, ∀ i < j', PairOk ps vs.length i j') (by rfl) ?_
    k_steps
    refine ⟨_, o1, _, _, _, _, rfl, by assumption, by omega, by k_asm, by k_asm, ⟨⟨_, c1⟩, fun j' h => absurd h (Nat.not_lt_zero _)⟩, ?_, ?_⟩
    · intro j oj mj I oI t h tk E' hj hInv FJ NJ off
      obtain ⟨⟨v0, hv0⟩, hprev⟩ := hInv
      simp only [LCg.Off1] at off
      (try dsimp only); try k_fold
      k_steps
      rename_i hJ oJ FJ2 NJ2 dJ
      unfold Hold
      refine for_range (h₀ := g') (L := L') j (fun _ : Unit => (I, oI) :: (L' + 1 + 1 + 1 + 1, oJ) :: (L' + 1 + 1 + 1, oS) :: (L' + 1 + 1, om) :: (L' + 1, o4) :: (D, LCg.lst ys) :: (l, listOf vs.toArray n) :: r2) (fun i _ => ∀ i' < i, PairOk ps vs.length i' j) (by rfl) ?_
      k_steps
      refine ⟨_, (), _, _, _, _, rfl, by assumption, by omega, by k_asm, by k_asm, (fun i' h => absurd h (Nat.not_lt_zero _)), ?_, ?_⟩
      · intro i _ mi I2 oI2 t2 hI2 tk2 E2 hi hInv2 FI NI off2
        simp only [LCg.Off1] at off2
        obtain ⟨⟨gi1, gi2⟩, ⟨gi3, gi4⟩⟩ := sd_grid (n := vs.length) (k := i) hg hp.length (by omega)
        obtain ⟨⟨gj1, gj2⟩, ⟨gj3, gj4⟩⟩ := sd_grid (n := vs.length) (k := j) hg hp.length (by omega)
        (try dsimp only); try k_fold
        k_steps
        · unfold Hold
          obtain ⟨c0, hc0⟩ : ∃ c0, c0 = (eqp (sdLo ps vs.length j).1 (sdLo ps vs.length j).2 (sdLo ps vs.length i).1 (sdLo ps vs.length i).2 || eqp (sdHi ps vs.length j).1 (sdHi ps vs.length j).2 (sdLo ps vs.length i).1 (sdLo ps vs.length i).2) := ⟨_, rfl⟩
          obtain ⟨c1, hc1⟩ : ∃ c1, c1 = (eqp (sdLo ps vs.length j).1 (sdLo ps vs.length j).2 (sdHi ps vs.length i).1 (sdHi ps vs.length i).2 || eqp (sdHi ps vs.length j).1 (sdHi ps vs.length j).2 (sdHi ps vs.length i).1 (sdHi ps vs.length i).2) := ⟨_, rfl⟩
          refine comp2 c0 c1 (by k_asm) (by with_unfolding_all rfl) (by decide) (by rfl) (by decide) (by rfl) (by decide) (by rfl) ?_
          k_steps
          refine ⟨_, _, _, _, _, rfl, by k_asm, by k_asm, by k_mem, ?_, ?_, ?_⟩
          · intro I oI C oC D oD m₂ h tk Q' E' hC hx F' N' hq'
            rw [hc0] at hq'
            k_steps
            exact hq' _ _ (by k_asm) (by k_asm)
          · intro I oI C oC D oD m₂ h tk Q' E' hC hx F' N' hq'
            rw [hc1] at hq'
            k_steps
            exact hq' _ _ (by k_asm) (by k_asm)
          intro Dc h tk F9 N9 o3
          simp only [LCg.Off1] at o3
          (try dsimp only); try k_fold
          have hcom : comS (sdLo ps vs.length i) (sdHi ps vs.length i) (sdLo ps vs.length j) (sdHi ps vs.length j) = cnt2 c0 c1 := by rw [hc0, hc1]; rfl
          have hap : apS (sdLo ps vs.length i) (sdHi ps vs.length i) (sdLo ps vs.length j) (sdHi ps vs.length j) = true := by assumption
          k_steps
          all_goals first
            | exact cb_retB (Q := Q) (fun t h' tk' F N => hret false h' tk' (fun e => nomatch e) F N) rfl (by k_asm) (cb_drop (by assumption) (drop_rest (by k_mem) (fun p hp => by have hp := hsr p hp; repeat (first | exact hp | refine List.Mem.tail _ ?_))))
            | exact turn_next () (by k_asm) (by k_asm) (fun p hp => by repeat (first | exact hp | refine List.Mem.tail _ ?_)) ⟨off2.1, off2.2.1, off2.2.2.1, off2.2.2.2.1, off2.2.2.2.2.1, off2.2.2.2.2.2.1, off2.2.2.2.2.2.2.1, off2.2.2.2.2.2.2.2⟩ (fun i' hi' => by
                rcases Nat.lt_succ_iff_lt_or_eq.mp hi' with hlt | rfl
                · exact hInv2 i' hlt
                · exact ⟨hap, hcom.trans (by first | exact adj1 (by assumption) (by assumption) | exact adj2 (by assumption) (by assumption) (by assumption) | exact adj3 (by assumption) (by assumption) (by assumption) (by assumption) | exact adj4 (by assumption) (by assumption) (by assumption))⟩)
        · exact cb_retB (Q := Q) (fun t h' tk' F N => hret false h' tk' (fun e => nomatch e) F N) rfl (by k_asm) (cb_drop (by assumption) (drop_rest (by k_mem) (fun p hp => by have hp := hsr p hp; repeat (first | exact hp | refine List.Mem.tail _ ?_))))
      · intro _ mi h tk hInv2 FI NI
        (try dsimp only); try k_fold
        k_steps
        exact turn_next oJ (by k_asm) (by k_asm) (fun p hp => hp) off ⟨⟨_, dJ⟩, fun j' hj' i' hi' => by
          rcases Nat.lt_succ_iff_lt_or_eq.mp hj' with hlt | rfl
          · exact hprev j' hlt i' hi'
          · exact hInv2 i' hi'⟩
    · intro oj mj h tk hInv FJ NJ
      obtain ⟨_, hprev⟩ := hInv
      (try dsimp only); try k_fold
      k_steps
      have hn := hp.length
      refine cb_retB (Q := Q) (fun t h' tk' F N => hret (decide (2 < (vs.length : Int))) h' tk' (fun e => ⟨?_, ?_⟩) F N) rfl (by k_asm) (cb_drop (by assumption) (drop_rest (by k_mem) (fun p hp => by have hp := hsr p hp; repeat (first | exact hp | refine List.Mem.tail _ ?_))))
      · have := of_decide_eq_true e; omega
      · rw [← hn]; exact hprev
end Mine
end
section
open PySem PySem.W PyProof.Rows
set_option Elab.async false
set_option maxRecDepth 100000
namespace Mine
open PySem.SeqAt
section
variable {prog : Program} {w : World} {A : Around} {E : Value → Shared → Prop} {s : Shared} {h₀ : Heap} {L : Addr} {m : Str → Option Value} {news rest : List (Addr × Obj)} {Q : Value → Shared → Prop} {l : Addr} {vs : List Value} {n : Nat} {ps : List (Int × Int)}
theorem sorted_row (F : Fr h₀ L s.heap m) (N : News h₀ L s.heap news) (hm : (l, listOf vs.toArray n) ∈ news) (hp : Pts rest vs ps) (hs : ∀ p ∈ rest, p ∈ news) (hg : ∀ p ∈ ps, Grid p) (h2 : 2 ≤ vs.length) (h64 : vs.length < 64)
    (h : ∀ D ws qs c h', Fr h₀ L h' m → News h₀ L h' ((D, listOf (List.toArray ws) c) :: news) → (∀ q ∈ news, q.1 < D) → ws.length = vs.length → Pts rest ws qs → (∀ p ∈ qs, Grid p) → qs.Perm ps → Q (.ref D) { s with heap := h' }) :
    wpAny (model prog w) A (call (.builtin "sorted") [.ref l]) Q E s :=
  sorted_pts F N ⟨_, (N _ hm).1, rfl, n, rfl⟩ (hp.mono hs) h2 h64 fun D ws c h' F' N' lt hw =>
    let ⟨qs, hq, hqp⟩ := hp.perm hw
    h D ws qs c h' F' N' lt hw.length_eq hq (fun p hpq => hg p (hqp.mem_iff.mp hpq)) hqp
theorem row_last {value slice : PySem.Expr} {u : Tok} (N : News h₀ L s.heap news) (hm : (l, listOf vs.toArray n) ∈ news) (hp : Pts rest vs ps) (h1 : 1 ≤ vs.length)
    (h : ∀ a t u' n', (a, tup [.int (ptAt ps ((vs.length : Int) - 1)).1 t, .int (ptAt ps ((vs.length : Int) - 1)).2 u'] n') ∈ rest → Q (.ref a) s)
    (hs : subscripted slice false (.ref l) (.int (-1) u) = operate [.ref l, .int (-1) u] (getItem (.ref l) (.int (-1) u)) := by with_unfolding_all rfl) :
    wpAny (model prog w) A (subscriptTail value slice (.ref l) (.int (-1) u)) Q E s := by
  have hl : s.heap.IsList l vs.toArray := ⟨_, (N _ hm).1, rfl, n, rfl⟩
  have hk : vs.length - 1 < ps.length := by have := hp.length; omega
  obtain ⟨v, hv, a, t, u', n', rfl, ha⟩ := hp.get hk
  have e : ptAt ps ((vs.length : Int) - 1) = ps[vs.length - 1] := by
    have e1 : ((vs.length : Int) - 1).toNat = vs.length - 1 := by omega
    unfold ptAt; rw [e1, List.getD_eq_getElem?_getD, List.getElem?_eq_getElem hk]; rfl
  have hz : vs.toArray.size = vs.length := List.size_toArray ..
  refine tail_any hl.typeIs slot_list_getitem.lookup (wpAny_getItem_list_neg (x := .ref a) hl (by decide) (by rw [hz]; omega) (by decide) ?_ (h a t u' n' (by rw [e]; exact ha))) hs
  rw [hz]
  have e2 : (-1 + (vs.length : Int)).toNat = vs.length - 1 := by omega
  rw [e2]
  simpa using hv
end
local macro_rules | `(tactic| k_mem) => `(tactic| first | assumption | ((with_reducible refine' memR ?_); k_mem))
local macro_rules | `(tactic| k_all) => `(tactic| (refine' off_ne ?ha ?hb ?hc; (case ha => assumption); (case hb => omega); (case hc => omega)))
local macro_rules | `(tactic| k_all) => `(tactic| (refine' all_ne ?ha ?hb; (case ha => assumption); (case hb => omega)))
theorem Pts.drop {rest : List (Addr × Obj)} : ∀ (k : Nat) {vs : List Value} {ps : List (Int × Int)}, Pts rest vs ps → Pts rest (vs.drop k) (ps.drop k)
  | 0, _, _, h => h
  | _ + 1, _, _, .nil => .nil
  | k + 1, _, _, .cons _ h => h.drop k
theorem Pts.take {rest : List (Addr × Obj)} : ∀ (k : Nat) {vs : List Value} {ps : List (Int × Int)}, Pts rest vs ps → Pts rest (vs.take k) (ps.take k)
  | 0, _, _, _ => .nil
  | _ + 1, _, _, .nil => .nil
  | k + 1, _, _, .cons h0 h => .cons h0 (h.take k)
theorem ends_mid {ps : List (Int × Int)} (h : 2 ≤ ps.length) : ptAt ps 0 :: ((ps.drop 1).take (ps.length - 2) ++ [ptAt ps ((ps.length : Int) - 1)]) = ps := by
  cases ps with
  | nil => exact absurd h (by decide)
  | cons a t =>
    rcases List.eq_nil_or_concat t with rfl | ⟨t', b, rfl⟩
    · exact absurd h (by simp)
    · have e : (((a :: t'.concat b).length : Int) - 1).toNat = t'.length + 1 := by simp
      unfold ptAt
      rw [e]
      simp
theorem pts_pick {rest : List (Addr × Obj)} {vs : List Value} {ps : List (Int × Int)} (h : Pts rest vs ps) (hg : ∀ p ∈ ps, Grid p) (h2 : 2 ≤ vs.length) : ∃ qs, Pts rest (PySem.W.kms_pick vs (some 1) (some (-1))) qs ∧ (∀ p ∈ qs, Grid p) ∧ ptAt ps 0 :: (qs ++ [ptAt ps ((vs.length : Int) - 1)]) = ps := by
  refine ⟨(ps.drop 1).take (ps.length - 2), ?_, fun p hp => hg p (List.mem_of_mem_drop (List.mem_of_mem_take hp)), ?_⟩
  · have hl := h.length
    have e1 : PySem.W.kms_pick vs (some 1) (some (-1)) = (vs.drop 1).take (ps.length - 2) := by
      unfold PySem.W.kms_pick PySem.W.kms_lo PySem.W.kms_hi
      have e1 : ((1 : Int) < 0) = False := by simp
      have e2 : ((-1 : Int) < 0) = True := by simp
      simp only [e1, e2, if_true, if_false, Int.neg_neg]
      have e3 : (1 : Int).toNat = 1 := rfl
      rw [e3]
      have e4 : min 1 vs.length = 1 := by omega
      have e5 : vs.length - 1 - 1 = ps.length - 2 := by omega
      rw [e4, e5]
    rw [e1]
    exact (h.drop 1).take _
  · rw [h.length]
    exact ends_mid (by rw [← h.length]; exact h2)
theorem len_pick_in (ws : List Value) : (PySem.W.kms_pick ws (some 1) (some (-1))).length = ws.length - 2 := by
  unfold PySem.W.kms_pick PySem.W.kms_lo PySem.W.kms_hi
  simp only [List.length_take, List.length_drop]
  have e1 : ((1 : Int) < 0) = False := by simp
  have e2 : ((-1 : Int) < 0) = True := by simp
  simp only [e1, e2, if_true, if_false, Int.neg_neg]
  have e3 : (1 : Int).toNat = 1 := rfl
  rw [e3]
  omega
structure StA where
  bs : Array Value
  nb : Nat
  D : Addr
  as : List Value
  na : Nat
abbrev mapA (M0 : Str → Option Value) (D : Addr) (pl : Option Value) : Str → Option Value := fun y => if y = Str.ofString "above" then some (.ref D) else if y = Str.ofString "place" then pl else M0 y
theorem mapA_init {M0 : Str → Option Value} {D : Addr} (h : M0 (Str.ofString "above") = some (.ref D)) : ∃ pl, M0 = mapA M0 D pl := ⟨M0 (Str.ofString "place"), funext fun y => by
  unfold mapA
  by_cases h1 : y = Str.ofString "above"
  · rw [if_pos h1, h1, h]
  · rw [if_neg h1]
    by_cases h2 : y = Str.ofString "place"
    · rw [if_pos h2, h2]
    · rw [if_neg h2]⟩
theorem mapA_pl {M0 : Str → Option Value} {D : Addr} {pl pl' : Option Value} : ∃ p, (fun y => if y = Str.ofString "place" then pl' else mapA M0 D pl y) = mapA M0 D p := ⟨pl', funext fun y => by
  unfold mapA
  by_cases h1 : y = Str.ofString "above"
  · rw [if_pos h1]
    by_cases h2 : y = Str.ofString "place"
    · rw [h1] at h2; exact absurd h2 (by decide)
    · rw [if_neg h2, if_pos h1]
  · rw [if_neg h1]
    by_cases h2 : y = Str.ofString "place"
    · rw [if_pos h2, if_neg h1, if_pos h2]
    · rw [if_neg h2, if_neg h1, if_neg h2, if_neg h2]⟩
theorem mapA_ab {M0 : Str → Option Value} {D D' : Addr} {pl pl' : Option Value} : ∃ p, (fun y => if y = Str.ofString "above" then some (.ref D') else if y = Str.ofString "place" then pl' else mapA M0 D pl y) = mapA M0 D' p := ⟨pl', funext fun y => by
  unfold mapA
  by_cases h1 : y = Str.ofString "above"
  · rw [if_pos h1, if_pos h1]
  · rw [if_neg h1, if_neg h1, if_neg h1]
    by_cases h2 : y = Str.ofString "place"
    · rw [if_pos h2, if_pos h2]
    · rw [if_neg h2, if_neg h2, if_neg h2]⟩
set_option maxHeartbeats 8000000 in
theorem around_ok {w : World} {p : Program} {loose : List Str} {mean : ExcName → Option Value} {mg mb : Str → Option Value}
  {dp un : Nat} {gd : Option (List Code)} {cn : Str} {cs : Scope} {la : Addr} {ccd : Value} {cl : List (Str × Addr)} {outer : List Env} {A₀ : Around} {base h₀ : Heap} {L : Addr} {m : Str → Option Value} {s : Shared} {Q E : Value → Shared → Prop}
  {rest : List (Addr × Obj)} {l : Addr} {n : Nat} {vs : List Value} {ps : List (Int × Int)}
  (B : Below A₀ base outer h₀) (F : Fr h₀ L s.heap m) (X : (Mine.hd.heap_1 w.params).In h₀)
  (N : News h₀ L s.heap ((l, listOf vs.toArray n) :: rest)) (hp : Pts rest vs ps) (hg : ∀ p ∈ ps, Grid p) (h3 : 3 ≤ vs.length) (h7 : vs.length ≤ 7)
  (T : Top p loose mean mg mb h₀) (hk : cs.kind = .function) (hd : dp + 4 < recursionLimit) (hu : un + 200 < cLine)
  (hret : ∀ D ws qs c h' tk', Fr h₀ L h' m → News h₀ L h' ((D, listOf (List.toArray ws) c) :: (l, listOf vs.toArray n) :: rest) → (@LT.lt Nat _ l D) → (∀ q ∈ rest, @LT.lt Nat _ q.1 D) → Pts rest ws qs → (∀ p ∈ qs, Grid p) → ws.length = vs.length → qs.Perm ps → Q (.ref D) { s with heap := h', toks := tk' }) :
  wpAny (model PySem.Challenge.rw_ja0044_01.row.prog w) (ktrTop dp un gd cn cs L la ccd cl outer) (call (.ref 303) [.ref l]) Q E s := by
  k_with_none
  (k_with "call builtin:sorted" => (k_here; k_dflt (refine' sorted_row ?zW0k1 ?zW0k2 ?zW0k3 ?zW0k4 ?zW0k5 ?zW0k6 ?zW0k7 ?zW0k8 ?_; (case zW0k1 => k_asm); (case zW0k2 => k_asm); (case zW0k3 => k_mem); (case zW0k4 => assumption); (case zW0k5 => intro p hp; repeat (first | exact hp | refine List.Mem.tail _ ?_)); (case zW0k6 => assumption); (case zW0k7 => omega); (case zW0k8 => omega); k_whole); intro _ _ _ _ _ _ _ l9 _ _ _ _; (try k_lt l9); (try k_sweep); (try (revert l9; intro _))))
  (k_with "subscriptTail" => (k_here; (with_reducible show wpAny _ _ (subscriptTail _ _ (Value.ref _) (Value.int _ _)) _ _ _); k_dflt (refine' ring_item ?zW1k1 ?zW1k2 ?zW1k3 ?zW1k4 ?zW1k5 ?zW1k6 ?_ ?zW1k7; (case zW1k1 => k_asm); (case zW1k2 => k_mem); (case zW1k3 => assumption); (case zW1k4 => first | omega | assumption); (case zW1k5 => first | omega | assumption); (case zW1k6 => omega); (case zW1k7 => with_unfolding_all rfl); k_whole); intro _ _ _ _ _))
  (k_with "subscriptTail" => (k_here; (with_reducible show wpAny _ _ (subscriptTail _ _ (Value.ref _) (Value.int (-1) _)) _ _ _); k_dflt (refine' row_last ?zW2k1 ?zW2k2 ?zW2k3 ?zW2k4 ?_ ?zW2k7; (case zW2k1 => k_asm); (case zW2k2 => k_mem); (case zW2k3 => assumption); (case zW2k4 => omega); (case zW2k7 => with_unfolding_all rfl); k_whole); intro _ _ _ _ _))
  (k_with "subscriptTail Name Slice ref ref" => (k_here; (with_reducible show wpAny _ _ (subscriptTail _ (PySem.Expr.Slice _ _ none _) (Value.ref _) (Value.ref _)) _ _ _); k_dflt (refine' kms_slice_lit ?zW3F ?zW3N ?zW3l ?zW3p ?zW3q ?zW3e ?_ ?zW3s ?zW3t ?zW3z; (case zW3F => k_asm); (case zW3N => k_asm); (case zW3l => kmk_list); (case zW3p => kmk_part); (case zW3q => kmk_part); (case zW3e => exact rfl); (case zW3s => with_unfolding_all rfl); (case zW3t => kmk_pure); (case zW3z => simp only [List.size_toArray, sizeLine_eq]; omega)); intro _ _ _ _ l9; (try k_lt l9); (try k_sweep); (try (revert l9; intro _))))
  (k_with "binaryOp Add ref ref" => (k_here; (with_reducible show wpAny _ _ (binaryOp _ (Value.ref _) (Value.ref _)) _ _ _); k_dflt (refine' kmk_add_lit ?zW4F ?zW4N ?zW4a ?zW4b ?zW4e ?_ ?zW4z; (case zW4F => k_asm); (case zW4N => k_asm); (case zW4a => kmk_list); (case zW4b => kmk_list); (case zW4e => exact rfl); (case zW4z => (simp only [List.size_toArray, sizeLine_eq, List.length_append, List.length_cons, List.length_nil, Array.length_toList]); omega)); intro _ _ _ _ l9; (try k_lt l9); (try k_sweep); (try (revert l9; intro _))))
  (k_with "exec For" => (with_reducible refine hold ?_))
  (k_with "call ref" => (k_here; (with_reducible show wpAny _ _ (call (Value.ref 284) [Value.ref _, Value.ref _]) _ _ _); k_dflt (refine' side_ok ?zW6k1 ?zW6k2 ?zW6k3 ?zW6k4 ?zW6k5 ?zW6kK ?zW6kd ?zW6ku ?zW6b1 ?zW6b2 ?zW6b3 ?zW6b4 ?zW6b5 ?zW6b6 ?_; (case zW6k1 => k_asm); (case zW6k2 => k_asm); (case zW6k3 => k_asm); (case zW6k4 => exact news4 (by k_asm) (by k_mem) (by k_mem) (by k_mem) (by k_mem)); (case zW6k5 => k_asm); (case zW6kK => first | exact rfl | assumption); (case zW6kd => ktr_room); (case zW6ku => ktr_units); (case zW6b1 => assumption); (case zW6b2 => assumption); (case zW6b3 => assumption); (case zW6b4 => assumption); (case zW6b5 => assumption); (case zW6b6 => assumption); k_whole); intro _ _ _ _ _; (try dsimp only)))
  (k_with "call builtin:list.append" => (k_here; (with_reducible show wpAny _ _ (call (Value.builtin _) [Value.ref _, _]) _ _ _); k_dflt (refine' append_K ?zW7k1 ?zW7k2 ?zW7k3 ?_ ?zW7z; (case zW7k1 => k_asm); (case zW7k2 => k_asm); (case zW7k3 => k_upd); (case zW7z => (simp only [sizeLine_eq]; omega)); k_whole); intro _ _ _; (try k_sweep)))
  (k_with "TurnEndL" => (dsimp only [TurnEndL]))
  revert X; k_fill; intro X
  refine wpAny_call ?_
  k_dflt cell_enter
  k_steps
  unfold Hold
  rename_i g2 L2 _ FG2 B2 X2 T2 _ Dr ws qs cr _ hl2 hq2 hg2 hpm2 lr _ _ aA tA uA nA hA aB tB uB nB hB Dt _ lt1 _ _ _ _ Bl _ lt2 _ _ Al _ lt3 _ F2 N2
  obtain ⟨M0, hM, F3⟩ : ∃ M0, M0 = _ ∧ Fr _ _ _ M0 := ⟨_, rfl, F2⟩
  clear F2
  obtain ⟨mid, hmid⟩ : ∃ mid, mid = PySem.W.kms_pick ws (some 1) (some (-1)) := ⟨_, rfl⟩
  obtain ⟨mq, hmq, hgm, hends⟩ : ∃ mq, Pts rest mid mq ∧ (∀ p ∈ mq, Grid p) ∧ ptAt qs 0 :: (mq ++ [ptAt qs ((ws.length : Int) - 1)]) = qs := by rw [hmid]; exact pts_pick hq2 hg2 (by omega)
  have hml : mid.length = vs.length - 2 := by rw [hmid, len_pick_in]; omega
  obtain ⟨⟨gA1, gA2⟩, ⟨gB1, gB2⟩⟩ : Grid (ptAt qs 0) ∧ Grid (ptAt qs ((ws.length : Int) - 1)) := ⟨hg2 _ (ptAt_mem (by omega) (by have := hq2.length; omega)), hg2 _ (ptAt_mem (by omega) (by have := hq2.length; omega))⟩
  refine for_list (h₀ := g2) (L := L2) mid (fun sl (c : StA) => (sl, listOf mid.toArray 0) :: (c.D, listOf c.as.toArray c.na) :: (Bl, listOf c.bs c.nb) :: (Dt, { cls := Value.type "tuple", data := Data.seq #[Value.ref aA, Value.ref aB] }) :: (Dr, listOf ws.toArray cr) :: (l, listOf vs.toArray n) :: rest)
    (fun _ i c m => (∃ pl, m = mapA M0 c.D pl) ∧ (∃ qb qa, Pts rest c.bs.toList qb ∧ Pts rest c.as qa ∧ (∀ p ∈ qb, Grid p) ∧ (∀ p ∈ qa, Grid p) ∧ (qb ++ qa).Perm (mq.take i)) ∧ c.bs.size + c.as.length = i ∧ @LT.lt Nat _ Bl c.D) (by rfl) ?_
  subst hM
  k_steps
  rename_i Sl hS FS NS lS
  have NS2 : News g2 L2 hS ((Sl, listOf mid.toArray 0) :: (Al, listOf [].toArray 0) :: (Bl, listOf #[] 0) :: (Dt, { cls := Value.type "tuple", data := Data.seq #[Value.ref aA, Value.ref aB] }) :: (Dr, listOf ws.toArray cr) :: (l, listOf vs.toArray n) :: rest) := by rw [hmid]; exact NS
  clear NS
  refine ⟨Sl, 0, _, ⟨#[], 0, Al, [], 0⟩, rfl, (fun _ => .head _), by k_asm, NS2, ⟨mapA_init rfl, ⟨[], [], .nil, .nil, (fun _ h => nomatch h), (fun _ h => nomatch h), List.Perm.refl _⟩, rfl, lt3.1⟩, ?_, ?_⟩
  · rintro i ⟨bs, nb, AD, as, na⟩ mm I oI v h tk E' hv ⟨⟨pl, rfl⟩, ⟨qb, qa, hqb, hqa, hgb, hga, hpab⟩, hsum, hBA⟩ F9 N9 off
    have hi : i < mid.length := (List.getElem?_eq_some_iff.mp hv).1
    have hil : i < mq.length := by rw [← hmq.length]; exact hi
    obtain ⟨v', hv', hat⟩ := hmq.get (i := i) (by rw [← hmq.length]; exact hi)
    have htk : mq.take (i + 1) = mq.take i ++ [mq[i]] := by rw [List.take_add_one, List.getElem?_eq_getElem hil]; rfl
    have hgp := hgm _ (List.getElem_mem (l := mq) (n := i) (by rw [← hmq.length]; exact hi))
    obtain rfl : v' = v := Option.some.inj (hv'.symm.trans hv)
    have hat' := hat
    obtain ⟨a, t, u, n', rfl, ha⟩ := hat'
    obtain ⟨gP1, gP2⟩ := hgp
    dsimp only [mapA] at F9; dsimp only at N9 hqb hqa hsum hBA; (try dsimp only); try k_fold
    simp only [LCg.Off1] at off
    k_steps
    · rename_i D9 _ l9 _ F9' N9'
      refine turn_nextL (⟨bs, nb, D9, Value.ref a :: as, 0⟩ : StA) F9' N9' ?_ ?_ ⟨mapA_ab, ⟨qb, mq[i] :: qa, hqb, .cons hat hqa, hgb, ?_, ?_⟩, ?_, ?_⟩
      · intro p hp
        simp only [List.mem_cons] at hp ⊢
        rcases hp with hp | hp | hp | hp | hp | hp | hp | hp <;> simp [hp]
      · simp only [LCg.Off1]
        exact ⟨off.1, Nat.ne_of_gt l9.2.2.1, off.2.2⟩
      · intro p hp
        rcases List.mem_cons.mp hp with rfl | hp
        · exact ⟨gP1, gP2⟩
        · exact hga p hp
      · rw [htk]
        exact (List.perm_middle.trans (hpab.cons _)).trans (List.perm_append_singleton _ _).symm
      · show bs.size + (as.length + 1) = i + 1
        omega
      · exact l9.2.2.2.2.2.1
    · rename_i _ F9' N9'
      refine turn_nextL (⟨bs.push (.ref a), nb + 1, AD, as, na⟩ : StA) F9' N9' ?_ ?_ ⟨mapA_pl, ⟨qb ++ [mq[i]], qa, ?_, hqa, ?_, hga, ?_⟩, ?_, hBA⟩
      · intro p hp
        simp only [List.mem_cons] at hp ⊢
        rcases hp with hp | hp | hp | hp | hp | hp | hp | hp <;> simp [hp]
      · simp only [LCg.Off1]
        exact off
      · show Pts rest (bs.push (.ref a)).toList _
        rw [Array.toList_push]
        exact hqb.append (.cons hat .nil)
      · intro p hp
        rcases List.mem_append.mp hp with hp | hp
        · exact hgb p hp
        · rw [List.mem_singleton.mp hp]; exact ⟨gP1, gP2⟩
      · rw [htk, List.append_assoc]
        exact (List.perm_middle.trans (hpab.cons _)).trans (List.perm_append_singleton _ _).symm
      · show (bs.push _).size + as.length = i + 1
        rw [Array.size_push]; omega
  · rintro ⟨bs, nb, AD, as, na⟩ mm h tk ⟨⟨pl, rfl⟩, ⟨qb, qa, hqb, hqa, hgb, hga, hpab⟩, hsum, hBA⟩ F9 N9
    dsimp only [mapA] at F9; dsimp only at N9 hqb hqa hsum hBA; (try dsimp only); try k_fold
    k_steps
    rename_i D9 h9 F9' N9' l9 kF kN _ _
    refine hret D9 ([Value.ref aA] ++ bs.toList ++ [Value.ref aB] ++ as) ([ptAt qs 0] ++ qb ++ [ptAt qs ((ws.length : Int) - 1)] ++ qa) 0 _ _ kF (cb_drop kN (drop_rest (.head _) (drop_rest (by k_mem) (fun p hp => by repeat (first | exact hp | refine List.Mem.tail _ ?_))))) ?_ ?_ ?_ ?_ ?_ ?_
    · exact l9.2.2.2.2.2.2.2.2.2.1
    · exact fun q hq => ktn_ltOf l9.2.2.2.2.2.2.2.2.2.2 q hq
    · exact ((((Pts.cons ⟨_, _, _, _, rfl, hA⟩ .nil).append hqb).append (.cons ⟨_, _, _, _, rfl, hB⟩ .nil)).append hqa)
    · intro p hp
      simp only [List.mem_append, List.mem_singleton] at hp
      rcases hp with ((rfl | hp) | rfl) | hp
      · exact ⟨gA1, gA2⟩
      · exact hgb p hp
      · exact ⟨gB1, gB2⟩
      · exact hga p hp
    · simp only [List.length_append, List.length_singleton, Array.length_toList]
      omega
    · refine List.Perm.trans ?_ hpm2
      rw [List.take_of_length_le (by rw [← hmq.length]; exact Nat.le_refl _)] at hpab
      have e1 : ([ptAt qs 0] ++ qb ++ [ptAt qs ((ws.length : Int) - 1)] ++ qa) = ptAt qs 0 :: (qb ++ (ptAt qs ((ws.length : Int) - 1) :: qa)) := by simp
      have e2 : (ptAt qs 0 :: (qb ++ (ptAt qs ((ws.length : Int) - 1) :: qa))).Perm (ptAt qs 0 :: (mq ++ [ptAt qs ((ws.length : Int) - 1)])) :=
        ((List.perm_middle.trans (hpab.cons _)).trans (List.perm_append_singleton _ _).symm).cons _
      rw [e1]
      exact e2.trans (List.Perm.of_eq hends)
end Mine
end
section
open PySem PySem.W PyProof.Rows PySem.Calls PySem.Spec
set_option Elab.async false
set_option maxRecDepth 100000
set_option maxHeartbeats 4000000
namespace Mine
open AutoSeq1 (wpAny_loadPart')
abbrev pnt (x : Int) (t : Tok) (y : Int) (u : Tok) (n : Nat) (d : Addr) : Obj := { cls := .ref 146, dict := some d, data := .seq #[.int x t, .int y u] n }
theorem tgi_kind : builtinKind "tuple.__getitem__" = some .slot := by decide +kernel
theorem tgi_split : splitId "tuple.__getitem__" = some ("tuple", "__getitem__") := by decide +kernel
theorem tgi_plain : plainId "tuple.__getitem__" = true := by decide +kernel
theorem pt_gi (l d : Addr) (items : Array Value) (n : Nat) (i : Int) (u : Tok) (k : Nat) (y : Value) (hlo : -2 ^ 63 ≤ i) (hhi : i < 2 ^ 63) (hk : seqIndex? i items.size = some k) (hy : items[k]? = some y) :
    Meets (Builtin.«tuple.__getitem__» ⟨[.ref l, .int i u], []⟩)
      (fun _ R s => s.heap.get? l = some { cls := .ref 146, dict := some d, data := .seq items n, slots := #[] } ∧ R (.ok (.ret y)) s) :=
  .of_wp fun prog w A R s h => by
    obtain ⟨hp, g, d, tk, os⟩ := s; obtain ⟨hl, h⟩ := h
    have f1 := AutoSeq1.idx_int
    have hf : ¬ (decide (i < -2 ^ 63) || decide (i ≥ 2 ^ 63)) = true := by simp; omega
    wp_walk using wpAny_loadPart' hl
    simp only [hk, hy, Option.bind_some]
    refine wpAny_ite_false (by simp; omega) ?_
    wp_walk
    exact ⟨_, rfl, h⟩
def inTup (K : Frag) : Prop := subIn K (Value.ref 146) (Value.type "tuple") = some true
section
variable {prog : Program} {w : World} {A : Around} {K : Frag} {E : Value → Shared → Prop} {s : Shared} {Q : Value → Shared → Prop} {a d : Addr} {x y : Int} {t u v : Tok} {n : Nat} {i : Int} {z : Value}
theorem pt_getitem (hlo : -2 ^ 63 ≤ i) (hhi : i < 2 ^ 63) {k : Nat} (hk : seqIndex? i 2 = some k) (hy : #[Value.int x t, .int y u][k]? = some z) (X : K.In s.heap) (I : s.heap.get? a = some (pnt x t y u n d)) (e : inTup K) (h : Q z s) :
    wpAny (model prog w) A (call (.builtin "tuple.__getitem__") [.ref a, .int i v]) Q E s := by
  have t1 : Looks (model prog w) s.heap (typeOf (.ref a)) (.ref 146) := (Looks.ld I).andThen .now
  have t2 : Looks (model prog w) s.heap (isInstance (.ref a) (.type "tuple")) true := t1.andThen (looks_subIn X e)
  refine wpAny_call ?_
  refine codeAny_call_builtin tgi_plain PyProof.Rows.entry_tuple_getitem ?_
  have hc : argsOk "tuple.__getitem__" ⟨.ref a :: [.int i v], []⟩ := PyProof.Rows.args_tuple_getitem (.ref a) (.int i v)
  refine check_slot (i := "tuple.__getitem__") (owner := "tuple") (n := "__getitem__") (self := .ref a) (rest := [.int i v]) (kw := []) tgi_kind tgi_split t2 hc ?_
  exact pt_gi a d #[.int x t, .int y u] n i v k z hlo hhi hk hy prog w A (wants Q E) s ⟨I, h⟩
theorem pt_issub (X : K.In s.heap) (e : inTup K) (h : Q (.bool true) s) : wpAny (model prog w) A (call (.builtin "issubclass") [.ref 146, .type "tuple"]) Q E s := by
  refine call_issubclass (S := fun _ R s => K.In s.heap ∧ R (.ok (.ret (.bool true))) s) (fun _ _ _ _ _ hs => issubclass_outer ?_) ⟨X, h⟩
  obtain ⟨X, h⟩ := hs
  rename_i prog w A R s0
  obtain ⟨hh, g, dd, tt, os⟩ := s0
  have t1 : Looks (model prog w) hh (isSubtype (.ref 146) (.type "tuple")) true := looks_subIn X e
  obtain ⟨cdD, hcD, _⟩ : ∃ cd, clsIn K 146 = some cd ∧ True := by
    unfold inTup subIn mroIn at e
    dsimp only at e
    cases hq : clsIn K 146 with
    | none => rw [hq] at e; cases e
    | some cd => exact ⟨cd, rfl, trivial⟩
  have hisD : Looks (model prog w) hh (isType (.ref 146)) true := by
    unfold clsIn at hcD
    split at hcD
    · rename_i c' d' cd' sl' ho
      intro A' Q' E' s' k q
      unfold isType loadHead
      exact wpAny_bind (wpAny_loadPart (k _ _ (X _ _ ho)) (wpAny_pure q))
    · cases hcD
  unfold Builtin.«issubclass.nested»
  refine wpAny_bind (wpAny_pure ?_)
  rw [if_pos (by decide)]
  k_delta "plainIsSubclass"
  refine wpAny_bind (wpAny_bind (hisD.at ?_))
  refine wpAny_bind (wpAny_pure ?_)
  simp only [Bool.and_self, if_true]
  refine t1.at ?_
  exact wpAny_pure h
theorem tuple_getm {pl : Sem Bool} {name : Str} {a : Value} {Q : Value × List Value → Shared → Prop} (X : K.In s.heap) (e : findCls K (.type "tuple") (.type "type") name = some (.val a)) (hh : handedIn a = true)
    (h : Q (a, []) { s with toks := s.toks + 1 }) : wpAny (model prog w) A (getMethod (.type "tuple") name pl) Q E s := by
  have hstub : opaqueClassAbove (.type "tuple") = pure none := by unfold opaqueClassAbove; dsimp only; rw [show Manifest.isStub "tuple" = false by decide +kernel]; rfl
  have ht : typeOf (.type "tuple") = pure (.type "type") := by first | rfl | kernel_rfl
  have L0 : Looks (model prog w) s.heap (typeOf (.type "tuple")) (.type "type") := Looks.of_pure ht
  have hg : findIn K (.type "type") "__getattribute__" = some (some (.builtin "type.__getattribute__")) := type_tga
  unfold getMethod specialOf
  refine wpAny_bind (wpAny_bind (L0.here ((looks_findIn X hg).here ?_)))
  dsimp only
  rw [if_pos canon_tga]
  refine wpAny_bind (wpAny_mono (Q := fun v => Q (v, [])) (E := E) ?_ (fun _ _ z => wpAny_pure z) fun _ _ z => z)
  have LO : Looks (model prog w) s.heap (opaqueClassAbove (.type "tuple")) none := Looks.of_pure hstub
  refine cls_open X LO L0 hg (looks_hook X (r := none) (by rfl)) (by show subIn K _ _ = _; rfl) e ?_
  show wpAny _ _ (ret a) _ _ _
  refine wpAny_pure ?_
  show wpAny _ _ (handedOut a) _ _ _
  rw [handedOut_of hh]
  exact wpAny_pure h
theorem pt_inst {h : Heap} (ha : h.get? a = some (pnt x t y u n d)) (hd : h.get? d = some (dictOf [] 0)) : InstAt h a (pnt x t y u n d) 146 (some (dictOf [] 0)) := ⟨ha, rfl, rfl, hd⟩
theorem findObj_pt {od : Option Obj} {name : Str} {at' g : Value} (e : inTup K) (ha : findIn K (.ref 146) name = some (some at')) (hn : specialIn K at' "__get__" = some (some g)) (ht : takesIn K at' = some true) : findObj K 146 od name = some (.bind g at') := by
  obtain ⟨cd, hcd⟩ : ∃ cd, clsIn K 146 = some cd := by
    unfold inTup subIn mroIn at e
    dsimp only at e
    cases hq : clsIn K 146 with
    | none => rw [hq] at e; cases e
    | some cd => exact ⟨cd, rfl⟩
  unfold findObj
  rw [hcd, Option.bind_some, ha, Option.bind_some]
  simp only [hn, ht, Option.bind_some]
theorem tga_entry : entryFor table "tuple.__getattribute__" = some Builtin.«object.__getattribute__» := entryFor_alias (id' := "object.__getattribute__") (by decide +kernel) (by decide +kernel) (by decide +kernel) (by rw [fastTable_eq_tree]; kernel_rfl)
theorem tga_slot : Slot "tuple" "__getattribute__" "tuple.__getattribute__" :=
  .of (owner := "tuple") (n := "__getattribute__") (by rw [typeLookup_type, builtinLookup_eq_fast]; kernel_rfl) (by decide +kernel) (by decide +kernel) (by decide +kernel)
    (by first | exact .inl (by decide +kernel) | exact .inr (by decide +kernel)) (by rw [isSubtype_type]; kernel_rfl)
theorem tga_argsT (a b : Value) : argsOk "tuple.__getattribute__" ⟨[a, b], []⟩ := by unfold argsOk; kernel_rfl
theorem tga_kindT : builtinKind "tuple.__getattribute__" = some .slot := by decide +kernel
theorem tga_splitT : splitId "tuple.__getattribute__" = some ("tuple", "__getattribute__") := by decide +kernel
theorem tga_tree {gA : Addr} {dsc : Value} {name : Str} {tk : Tok} {A' : Around} {R : Result → Shared → Prop} (X : K.In s.heap) (I : InstAt s.heap a (pnt x t y u n d) 146 (some (dictOf [] 0))) (hf : findObj K 146 (some (dictOf [] 0)) name = some (.bind (.ref gA) dsc))
    (h : wpAny (model prog w) A (call (.ref gA) [dsc, .ref a, .ref 146]) (fun v s' => R (.ok (.ret v)) s') (fun e s' => R (.error e) s') s) :
    wpAny (model prog w) A (Builtin.«object.__getattribute__» ⟨[.ref a, .str name tk], []⟩)
      (fun fin s' => match fin with | .done f => R (.ok f) s' | .again c' => c'.quiet = true ∧ codeAny (model prog w) A' c' R s') (fun e s' => R (.error e) s') s := by
  obtain ⟨hh', gg, dd, tt, os⟩ := s
  have L0 := I.type (M := model prog w)
  have L1 := looks_find (M := model prog w) X I hf
  unfold Builtin.«object.__getattribute__»
  refine wpAny_bind (wpAny_of_eq (a := (.ref a, [.str name tk])) (by first | rfl | kernel_rfl) ?_)
  dsimp only
  refine wpAny_bind (wpAny_pure (wpAny_bind (L0.at (wpAny_bind (L1.at ?_)))))
  dsimp only
  exact wpAny_bind (wpAny_holding (wpAny_mono h (fun v s' z => wpAny_pure z) fun _ _ z => z))
theorem pt_attr {h₀ : Heap} {L : Addr} {m : Str → Option Value} {news : List (Addr × Obj)} {name : Str} {gA : Addr} {dsc : Value} {expr : Bool} (F : Fr h₀ L s.heap m) (X₀ : K.In h₀) (N : News h₀ L s.heap news) (ha : (a, pnt x t y u n d) ∈ news) (hd : (d, dictOf [] 0) ∈ news)
    (hga : findIn K (.ref 146) "__getattribute__" = some (some (.builtin "tuple.__getattribute__"))) (hk : findIn K (.ref 146) "__getattr__" = some none) (e : inTup K) (hfa : findIn K (.ref 146) name = some (some dsc)) (hn : specialIn K dsc "__get__" = some (some (.ref gA))) (ht : takesIn K dsc = some true)
    (h : wpAny (model prog w) A.in1 (call (.ref gA) [dsc, .ref a, .ref 146]) (fun v s' => wpAny (model prog w) A (handedOut v) Q E s') (fun _ _ => False) { s with toks := s.toks + 1 }) :
    wpAny (model prog w) A (getAttr (.ref a) name expr) Q E s := by
  have X := X₀.keeps F.keep
  have I := pt_inst (N _ ha).1 (N _ hd).1
  have hf := findObj_pt (od := some (dictOf [] 0)) e hfa hn ht
  obtain ⟨hh', gg, dd, tt, os⟩ := s
  have L0 := I.type (M := model prog w)
  have L1 := looks_findIn (M := model prog w) X hga
  have L2 := looks_findIn (M := model prog w) X hk
  unfold getAttr getAttrBy
  refine wpAny_bind (wpAny_mkText (wpAny_holding (wpAny_bind (L0.at (wpAny_bind (L1.at ?_))))))
  show wpAny _ _ (getAttrByItsOwn (.ref a) (.str name tt) (.ref 146) (.builtin "tuple.__getattribute__") true expr) _ _ _
  unfold getAttrByItsOwn hookBefore callGetattribute boundAndCalled
  refine wpAny_bind (L2.at ?_)
  refine wpAny_bind (wpAny_attempt (wpAny_holding ?_))
  rw [show (expr && onTheHeap (Value.builtin "tuple.__getattribute__")) = false from Bool.and_false _, if_neg (by decide)]
  refine wpAny_bind (wpAny_of_eq (tga_slot.bind _) ?_)
  show wpAny _ _ (call (.builtin "tuple.__getattribute__") [.ref a, .str name tt]) _ _ _
  have t2 : Looks (model prog w) hh' (isInstance (.ref a) (.type "tuple")) true := L0.andThen (looks_subIn X e)
  refine wpAny_call ?_
  refine codeAny_call_builtin tga_slot.plain tga_entry ?_
  refine check_slot (i := "tuple.__getattribute__") (owner := "tuple") (n := "__getattribute__") (self := .ref a) (rest := [.str name tt]) (kw := []) tga_kindT tga_splitT t2 (tga_argsT (.ref a) (.str name tt)) ?_
  refine tga_tree (s := ⟨hh', gg, dd, tt + 1, os⟩) (A' := A) (R := fun r s' => match r with | .ok (.ret v) => wpAny (model prog w) A (handedOut v) Q E s' | .ok _ => False | .error e => wpAny (model prog w) A (getattributeRaised (.ref a) (.str name tt) (.ref 146) e none true expr) Q E s') X I hf ?_
  refine wpAny_mono h (fun v s' z => ?_) (fun e s' (z : False) => z.elim)
  exact z
theorem pt_type {h₀ : Heap} {L : Addr} {news : List (Addr × Obj)} (N : News h₀ L s.heap news) (ha : (a, pnt x t y u n d) ∈ news) (hd : (d, dictOf [] 0) ∈ news) (h : Q (.ref 146) s) : wpAny (model prog w) A (call (.type "type") [.ref a]) Q E s :=
  kto_own (pt_inst (N _ ha).1 (N _ hd).1) h
end
end Mine
end
section
open PySem PySem.W PyProof.Rows PySem.Calls PySem.Spec
set_option Elab.async false
set_option maxRecDepth 100000
set_option maxHeartbeats 4000000
namespace Mine
open Builtin
def ptCls (K : Frag) : Prop := ∃ oc od cd sl, K.lookup 146 = some ⟨oc, od, .cls cd, sl⟩ ∧ cd.bases = [.type "tuple"] ∧ cd.hasDel = false ∧ sl[4]? = some (some .none) ∧ cd.mro = [.ref 146, .type "tuple", .type "object"]
theorem bestBase_tuple : Builtin.Slots.bestBase [.type "tuple"] = pure (.type "tuple") := by first | rfl | kernel_rfl
theorem tn_args (a b : Value) : argsOk "tuple.__new__" ⟨[a, b], []⟩ := by unfold argsOk; kernel_rfl
theorem tn_split : splitId "tuple.__new__" = some ("tuple", "__new__") := by decide +kernel
theorem tn_kind : builtinKind "tuple.__new__" = some .builtinFn := by decide +kernel
section
variable {prog : Program} {w : World} {M : Model} {A : Around} {K : Frag} {E : Value → Shared → Prop} {s : Shared} {h : Heap}
theorem pt_mro (X : K.In h) (C : ptCls K) : Looks M h (mroOf (.ref 146)) [.ref 146, .type "tuple", .type "object"] := by
  obtain ⟨oc, od, cd, sl, ho, e1, e2, e3, e4⟩ := C
  have hc : clsIn K 146 = some cd := by unfold clsIn; rw [ho]
  rw [← e4]
  exact (looks_clsIn X hc).andThen .now
theorem pt_made (X : K.In h) (C : ptCls K) : Looks M h (Bind.madeBy (.ref 146)) none := by
  have hm := pt_mro (M := M) X C
  obtain ⟨oc, od, cd, sl, ho, e1, e2, e3, e4⟩ := C
  intro A Q E s k q
  unfold Bind.madeBy
  refine wpAny_bind (hm A _ E s k ?_)
  rw [List.forIn_cons]
  refine wpAny_bind (wpAny_bind (wpAny_bind (wpAny_bind (wpAny_loadPart (k _ _ (X _ _ ho)) (wpAny_pure ?_)))))
  dsimp only
  rw [e3]
  exact wpAny_pure (wpAny_pure (wpAny_pure q))
theorem pt_base (X : K.In h) (C : ptCls K) : Looks M h (Bind.staticBase (.ref 146)) (.type "tuple") := by
  have hm := pt_mro (M := M) X C
  have hmd := pt_made (M := M) X C
  obtain ⟨oc, od, cd, sl, ho, e1, e2, e3, e4⟩ := C
  have hc : clsIn K 146 = some cd := by unfold clsIn; rw [ho]
  have hcd := looks_clsIn (M := M) X hc
  intro A Q E s k q
  unfold Bind.staticBase
  refine wpAny_bind (hm A _ E s k ?_)
  rw [List.forIn_cons]
  refine wpAny_bind (wpAny_bind (wpAny_bind (hmd A _ E s k ?_)))
  simp only [Option.isSome_none, Bool.false_eq_true, if_false]
  refine wpAny_bind (hcd A _ E s k ?_)
  rw [e1]
  refine wpAny_bind (wpAny_of_eq bestBase_tuple ?_)
  refine wpAny_pure ?_
  dsimp only
  rw [List.forIn_cons]
  dsimp only
  rw [F.called_tuple.made]
  exact wpAny_pure (wpAny_pure q)
end
section
variable {prog : Program} {w : World} {A : Around} {K : Frag} {E : Value → Shared → Prop} {s : Shared} {h₀ : Heap} {L : Addr} {m : Str → Option Value} {news : List (Addr × Obj)} {Q : Value → Shared → Prop} {T : Addr} {its : Array Value} {n : Nat}
theorem tn_here {M : Model} {h : Heap} (X : K.In h) (C : ptCls K) : Looks M h (Bind.madeHere "tuple.__new__" (.ref 146)) () := by
  unfold Bind.madeHere
  refine (pt_base X C).andThen ?_
  rw [F.called_tuple.made]
  refine Looks.of_pure ?_
  first | rfl | kernel_rfl
theorem tn_call (F' : Fr h₀ L s.heap m) (X₀ : K.In h₀) (N : News h₀ L s.heap news) (C : ptCls K) (e : inTup K) (hi : findIn K (.ref 146) "__init__" = some (some (.builtin "object.__init__"))) (hT : (T, { cls := .type "tuple", data := .seq its n }) ∈ news) (hz : its.size ≤ sizeLine)
    (h : ∀ D dx h', Fr h₀ L h' m → News h₀ L h' ((D, { cls := .ref 146, dict := some dx, data := .seq its }) :: (dx, dictOf [] 0) :: news) → (∀ p ∈ news, p.1 < dx) → dx < D → Q (.ref D) { s with heap := h' }) :
    wpAny (model prog w) A (call (.builtin "tuple.__new__") [.ref 146, .ref T]) Q E s := by
  have X := X₀.keeps F'.keep
  have nT := (N _ hT).1
  obtain ⟨hh, g, d, tk, os⟩ := s
  have hmade := tn_here (M := model prog w) X C
  have hbase := pt_base (M := model prog w) X C
  have hm := pt_mro (M := model prog w) X C
  have hsub := looks_subIn (M := model prog w) X e
  have hini := looks_findIn (M := model prog w) X hi
  have hC := C
  obtain ⟨oc, od, cd, sl, ho, e1, e2, e3, e4⟩ := hC
  have hisD : Looks (model prog w) hh (isType (.ref 146)) true := by
    intro A' Q' E' s' k q
    unfold isType loadHead
    exact wpAny_bind (wpAny_loadPart (k _ _ (X _ _ ho)) (wpAny_pure q))
  refine wpAny_call ?_
  refine codeAny_call_builtin F.plain_tuple_new F.entry_tuple_new ?_
  simp only [checkBuiltinCall, tn_kind, tn_split]
  rw [if_pos (by decide)]
  refine wpAny_bind (hisD.at ?_)
  simp only [Bool.not_true, Bool.false_eq_true, if_false]
  refine wpAny_bind (hsub.at ?_)
  simp only [Bool.not_true, Bool.false_eq_true, if_false]
  refine wpAny_bind (hbase.at ?_)
  refine wpAny_bind (wpAny_of_eq F.called_tuple.made ?_)
  simp only [bne_self_eq_false, Bool.false_eq_true, if_false]
  have ha := tn_args (.ref 146) (.ref T)
  have go : ∀ Q' : Unit → Shared → Prop, Q' () ⟨hh, g, d, tk, os⟩ → wpAny (model prog w) A.in1 (match Manifest.signature? "tuple.__new__" with | some sig => Bind.checkArgs "tuple.__new__" sig { pos := [Value.ref 146, Value.ref T] } | x => pure ()) Q' (fun e s' => wants Q E (.error e) s') ⟨hh, g, d, tk, os⟩ := by
    intro Q' q
    cases hsig : Manifest.signature? "tuple.__new__" with
    | none => exact wpAny_pure q
    | some sig =>
      simp only [argsOk, hsig] at ha
      have h2 : Bind.checkArgs "tuple.__new__" sig { pos := [Value.ref 146, Value.ref T] } = pure () := ha
      simp only [h2]
      exact wpAny_pure q
  refine go _ ?_
  unfold Builtin.«tuple.__new__»
  dsimp only
  refine wpAny_bind (hisD.at ?_)
  simp only [Bool.not_true, Bool.false_eq_true, if_false]
  refine wpAny_bind (hsub.at ?_)
  simp only [Bool.not_true, Bool.false_eq_true, if_false]
  refine wpAny_bind (hmade.at ?_)
  refine wpAny_bind (hini.at ?_)
  simp only [beq_self_eq_true, if_true]
  refine wpAny_bind (wpAny_of_eq (a := ()) (by first | rfl | kernel_rfl) ?_)
  refine wpAny_bind (wpAny_of_eq (a := ()) (by first | rfl | kernel_rfl) ?_)
  rw [if_neg (fun q => by cases (beq_iff_eq.mp q))]
  refine wpAny_bind (wpAny_collect_seq T (.inr rfl) nT rfl rfl (hsz := hz) fun h' hk => ?_)
  refine wpAny_bind (wpAny_pure ?_)
  refine wpAny_bind (wpAny_alloc ?_)
  refine wpAny_bind ?_
  have F1 : Fr h₀ L h' m := F'.kept hk
  have N1 : News h₀ L h' news := N.grown hk
  have F2 := F1.push (dictOf [] 0)
  have N2 := N1.push F1 (dictOf [] 0)
  have F3 := F2.push { cls := .ref 146, dict := some h'.objs.size, data := .seq its }
  have N3 := N2.push F2 { cls := .ref 146, dict := some h'.objs.size, data := .seq its }
  rw [Heap.size_push] at N3
  have hD := h _ _ _ F3 N3 (fun p hp => Heap.lt_size (N1 p hp).1) (Nat.lt_succ_self _)
  have hC3 : ((h'.push (dictOf [] 0)).push { cls := .ref 146, dict := some h'.objs.size, data := .seq its }).get? 146 = some ⟨oc, od, .cls cd, sl⟩ := Heap.get?_push_of_some _ (Heap.get?_push_of_some _ (hk _ _ (X _ _ ho)))
  unfold newObj
  dsimp only
  rw [Array.toArray_toList, if_neg (Nat.not_lt.mpr hz)]
  unfold newObjAsIs classHasDel
  refine wpAny_bind (wpAny_alloc (wpAny_bind (wpAny_bind (wpAny_load hC3 (wpAny_pure ?_)))))
  dsimp only
  rw [e2]
  refine wpAny_pure (wpAny_pure ?_)
  rw [Heap.size_push]
  exact hD
end
end Mine
end
section
open PySem PySem.W PyProof.Rows PySem.Calls PySem.Spec
set_option Elab.async false
set_option maxRecDepth 100000
set_option maxHeartbeats 4000000
namespace Mine
open Builtin
section
variable {prog : Program} {w : World} {A : Around} {K : Frag} {E : Value → Shared → Prop} {s : Shared} {h₀ : Heap} {L : Addr} {m : Str → Option Value} {news : List (Addr × Obj)} {Q : Value → Shared → Prop}
def MadePt (K : Frag) (Q : Value → Shared → Prop) (v : Value) (s' : Shared) : Prop := ∃ D oD, v = .ref D ∧ s'.heap.get? D = some oD ∧ oD.cls = .ref 146 ∧ K.In s'.heap ∧ Q (.ref D) s'
theorem oi_args2 (a b c : Value) : argsOk "object.__init__" ⟨[a, b, c], []⟩ := by unfold argsOk; kernel_rfl
theorem pt_call {a b : Value} {mc : Value} {rest' : List Value} (F : Fr h₀ L s.heap m) (X₀ : K.In h₀) (C : ptCls K) (e : inTup K) (hself : subIn K (.ref 146) (.ref 146) = some true) (hobj : subIn K (.ref 146) (.type "object") = some true)
    (hcl : specialIn K (.ref 146) "__call__" = some (some (.builtin "type.__call__"))) (hty : instIn K (.ref 146) (.type "type") = some true)
    (hm' : typeIn K (.ref 146) = some mc) (hr : readsIn K 146 mc = true) (e' : findCls K (.ref 146) mc "__new__" = some (.get (.builtin "staticmethod.__get__") (.ref 147) .none (.ref 146))) (hp : recIn K 147 "staticmethod" = some (.ref 96 :: rest'))
    (hi : findIn K (.ref 146) "__init__" = some (some (.builtin "object.__init__")))
    (h : wpAny (model prog w) (A.under (.builtin "type.__call__" ⟨[.ref 146, a, b], []⟩)) (call (.ref 96) [.ref 146, a, b]) (MadePt K Q) (fun e s' => E e s') { s with toks := s.toks + 1 }) :
    wpAny (model prog w) A (call (.ref 146) [a, b]) Q E s := by
  have X := X₀.keeps F.keep
  have hcall := looks_specialIn (M := model prog w) X hcl
  have htyp := looks_instIn (M := model prog w) X hty
  have hm := pt_mro (M := model prog w) X C
  have hmade := pt_made (M := model prog w) X C
  have hC := C
  obtain ⟨oc, od, cd, sl, ho, e1, e2, e3, e4⟩ := hC
  obtain ⟨hh, g, d, tk, os⟩ := s
  refine wpAny_call ?_
  refine codeAny_of_tree ?_
  show wpAny _ _ (callAny (.ref 146) _) _ _ _
  refine nd_load (X _ _ ho) ?_
  show wpAny _ _ (callAny.viaDunder (.ref 146) _) _ _ _
  unfold callAny.viaDunder
  refine wpAny_bind (hcall.at ?_)
  dsimp only
  rw [tc_bind]
  refine wpAny_bind (wpAny_pure (wpAny_bind (wpAny_pure ?_)))
  refine wpAny_pure (a := Fin.again (.call (.builtin "type.__call__") ⟨[.ref 146, a, b], []⟩)) (And.intro rfl ?_)
  refine codeAny_call_builtin_at (Code.quiet_builtin _ (by decide +kernel)) entry_typeCall ?_
  refine check_slot (i := "type.__call__") (owner := "type") (n := "__call__") (self := .ref 146) (rest := [a, b]) (kw := []) tc_kind tc_split htyp (tc_args (.ref 146) [a, b] []) ?_
  unfold Builtin.«type.__call__»
  dsimp only
  rw [if_neg (fun q => by cases (beq_iff_eq.mp q))]
  refine wpAny_bind (hm.at ?_)
  simp only [List.isEmpty_cons, Bool.false_eq_true, if_false]
  refine wpAny_bind (hmade.at ?_)
  dsimp only
  refine wpAny_bind (cls_sm F X₀ hm' hr e' hp rfl ?_)
  refine wpAny_bind (wpAny_holding (wpAny_mono h (fun v s' hv => ?_) fun e s' he => ?_))
  · obtain ⟨D, oD, rfl, hD, hcD, XD, hq⟩ := hv
    obtain ⟨h1, g1, d1, tk1, os1⟩ := s'
    have t1 : Looks (model prog w) h1 (typeOf (.ref D)) (.ref 146) := by
      rw [← hcD]; exact (Looks.ld hD).andThen .now
    have t2 : Looks (model prog w) h1 (isInstance (.ref D) (.ref 146)) true := t1.andThen (looks_subIn XD hself)
    have t3 : Looks (model prog w) h1 (isInstance (.ref D) (.type "object")) true := t1.andThen (looks_subIn XD hobj)
    have t4 : Looks (model prog w) h1 (specialOf (.ref D) "__init__") (some (.builtin "object.__init__")) := t1.andThen (looks_findIn XD hi)
    have t5 := looks_findIn (M := model prog w) XD hi
    have hmade' := pt_made (M := model prog w) XD C
    refine wpAny_bind (t2.at ?_)
    simp only [Bool.not_true, Bool.false_eq_true, if_false]
    refine wpAny_bind (wpAny_holding ?_)
    unfold callSpecial?
    refine wpAny_bind (t4.at ?_)
    dsimp only
    refine wpAny_holding (wpAny_bind (wpAny_of_eq (oi_bind _) ?_))
    refine wpAny_bind (wpAny_call ?_)
    refine codeAny_call_builtin oi_plain entry_oi ?_
    refine check_slot (i := "object.__init__") (owner := "object") (n := "__init__") (self := .ref D) (rest := [a, b]) (kw := []) oi_kind oi_split t3 (oi_args2 (.ref D) a b) ?_
    unfold Builtin.«object.__init__»
    simp only [List.cons_append, List.nil_append, List.isEmpty_cons, Bool.not_false, Bool.true_or, if_true]
    refine wpAny_bind (t1.at ?_)
    refine wpAny_bind (t5.at ?_)
    refine wpAny_bind (hmade'.at ?_)
    simp only [bne_self_eq_false, Bool.false_eq_true, if_false]
    rw [if_neg (by decide)]
    refine wpAny_pure ?_
    exact wpAny_pure (wpAny_pure hq)
  · exact he
end
end Mine
end
section
open PySem PySem.W PyProof.Rows PySem.Calls PySem.Spec
set_option Elab.async false
set_option maxRecDepth 100000
set_option maxHeartbeats 4000000
namespace Mine
open AutoSeq1 (wpAny_loadPart')
section
variable {prog : Program} {w : World} {A : Around} {K : Frag} {E : Value → Shared → Prop} {s : Shared} {Q : Value → Shared → Prop} {a b d1 d2 : Addr} {x1 y1 x2 y2 : Int} {t1 t2 t3 t4 : Tok} {n1 n2 : Nat}
theorem ptlt_run {R : Result → Shared → Prop} {hp : Heap} {g : Array GenState} {d : Drawn} {tk : Nat} {os : OsState} (items items2 : Array Value) (hl : hp.get? a = some { cls := .ref 146, dict := some d1, data := .seq items n1 }) (hb : hp.get? b = some { cls := .ref 146, dict := some d2, data := .seq items2 n2 })
    (hsub : Looks (model prog w) hp (isSubtype (.ref 146) (.type "tuple")) true) (hi : IntPairs (items.toList.zip items2.toList)) (h : R (.ok (.ret (.bool (lexV (decide (items.size < items2.size)) (items.toList.zip items2.toList))))) ⟨hp, g, d, tk, os⟩) :
    wpAny (model prog w) A.in1 (Builtin.«tuple.__lt__» ⟨[.ref a, .ref b], []⟩) (fun fin s' => match fin with | .done f => R (.ok f) s' | .again c' => c'.quiet = true ∧ codeAny (model prog w) A c' R s') (fun e s' => R (.error e) s') ⟨hp, g, d, tk, os⟩ := by
  wp_walk using wpAny_loadPart' hl, wpAny_loadPart' hb, Looks.at hsub, wpAny_forIn_list _ (fun rest b s' => b.1 = none ∧ s' = ⟨hp, g, d, tk, os⟩ ∧ IntPairs rest ∧
      R (.ok (.ret (.bool (lexV (decide (items.size < items2.size)) rest)))) ⟨hp, g, d, tk, os⟩) _
  case turn =>
    rintro ⟨y, x⟩ rest b s' ⟨hb', rfl, hz, hR⟩
    cases y <;> first | exact hz.elim | skip
    cases x <;> first | exact hz.elim | skip
    rename_i a t c u
    refine wpAny_bind (wpAny_eqBool_int ?_)
    unfold lexV at hR
    cases hy : (a == c) with
    | true =>
      rw [hy] at hR
      exact wpAny_pure ⟨rfl, rfl, hz, hR⟩
    | false =>
      rw [hy] at hR
      refine wpAny_bind (wpAny_rule (wpAny_bind (rc_lt (wpAny_bind (wpAny_pure (wpAny_pure ?_))))))
      exact wpAny_pure hR
  case fin =>
    rintro ⟨b1, b2⟩ s' ⟨hb', rfl, hz, hR⟩
    simp only at hb'
    subst hb'
    exact wpAny_pure hR
  case h => exact ⟨rfl, rfl, hi, h⟩
theorem tlt_kind : builtinKind "tuple.__lt__" = some .slot := by decide +kernel
theorem tlt_split : splitId "tuple.__lt__" = some ("tuple", "__lt__") := by decide +kernel
theorem pt_csib {Q : Option Value → Shared → Prop} (sa : Looks (model prog w) s.heap (specialOf (.ref a) (cmpInfo .Lt).2.1) (some (.builtin "tuple.__lt__")))
    (h : wpAny (model prog w) A (call (.builtin "tuple.__lt__") [.ref a, .ref b]) (fun v => Q (some v)) E s) : wpAny (model prog w) A (callSpecialIfBound? (.ref a) (cmpInfo .Lt).2.1 [.ref b]) Q E s := by
  simp only [callSpecialIfBound?, bindSpecialIfBound?]
  refine wpAny_holding (wpAny_bind (wpAny_bind (sa.here ?_)))
  simp only [F.slot_tuple_lt.bind]
  refine wpAny_bind (wpAny_askSetting (wpAny_ite ?_))
  have fin : wpAny (model prog w) A (call (.builtin "tuple.__lt__") ([.ref a] ++ [.ref b]) >>= fun v => pure (some v)) Q E s :=
    wpAny_bind (wpAny_mono h (fun v s' h' => wpAny_pure h') fun _ _ h' => h')
  split
  · exact wpAny_bind (wpAny_pure (wpAny_pure fin))
  · exact wpAny_tryCatch (wpAny_bind (wpAny_pure (wpAny_pure fin)))
theorem pt_ltcall (X : K.In s.heap) (ha : s.heap.get? a = some (pnt x1 t1 y1 t2 n1 d1)) (hb : s.heap.get? b = some (pnt x2 t3 y2 t4 n2 d2)) (e : inTup K) (h : Q (.bool (lexlt x1 y1 x2 y2)) s) :
    wpAny (model prog w) A (call (.builtin "tuple.__lt__") [.ref a, .ref b]) Q E s := by
  have hsub := looks_subIn (M := model prog w) X e
  obtain ⟨hh, g, d, tk, os⟩ := s
  have ta : Looks (model prog w) hh (typeOf (.ref a)) (.ref 146) := (Looks.ld ha).andThen .now
  have ia : Looks (model prog w) hh (isInstance (.ref a) (.type "tuple")) true := ta.andThen hsub
  refine wpAny_call ?_
  refine codeAny_call_builtin F.slot_tuple_lt.plain F.entry_tuple_lt ?_
  refine check_slot (i := "tuple.__lt__") (owner := "tuple") (n := "__lt__") (self := .ref a) (rest := [.ref b]) (kw := []) tlt_kind tlt_split ia (F.args_tuple_lt_2 (.ref a) (.ref b)) ?_
  refine ptlt_run (R := wants Q E) #[.int x1 t1, .int y1 t2] #[.int x2 t3, .int y2 t4] ha hb hsub trivial ?_
  rw [lexV_lt]
  exact h
theorem pt_rlt (X : K.In s.heap) (ha : s.heap.get? a = some (pnt x1 t1 y1 t2 n1 d1)) (hb : s.heap.get? b = some (pnt x2 t3 y2 t4 n2 d2)) (e : inTup K) (hlt : findIn K (.ref 146) (cmpInfo .Lt).2.1 = some (some (.builtin "tuple.__lt__"))) (hu : A.units < cLine) (h : Q (.bool (lexlt x1 y1 x2 y2)) s) :
    wpAny (model prog w) A (richCompare .Lt (.ref a) (.ref b)) Q E s := by
  have ta' : Looks (model prog w) s.heap (typeOf (.ref a)) (.ref 146) := (Looks.ld ha).andThen .now
  have sa : Looks (model prog w) s.heap (specialOf (.ref a) (cmpInfo .Lt).2.1) (some (.builtin "tuple.__lt__")) := ta'.andThen (looks_findIn X hlt)
  have tb' : Looks (model prog w) s.heap (typeOf (.ref b)) (.ref 146) := (Looks.ld hb).andThen .now
  unfold richCompare
  simp only [oneThing_ref]
  refine wpAny_holding ?_
  refine wpAny_bind (wpAny_cRoomFor hu ?_)
  refine wpAny_bind (ta'.here ?_)
  refine wpAny_bind (tb'.here ?_)
  rw [show (Value.ref 146 != Value.ref 146) = false from by simp]
  simp only [Bool.false_eq_true, if_false]
  refine wpAny_bind (wpAny_pure ?_)
  simp only [Bool.false_eq_true, if_false]
  unfold tryCompare
  refine wpAny_bind (wpAny_bind (pt_csib sa (pt_ltcall X ha hb e ?_)))
  exact wpAny_pure (wpAny_pure h)
end
end Mine
end
section
open PySem PySem.W PyProof.Rows PySem.Calls PySem.Spec
set_option Elab.async false
set_option maxRecDepth 100000
set_option maxHeartbeats 4000000
namespace Mine
open LCg
def KPt (h₀ : Heap) (L : Addr) (m : Str → Option Value) (news : List (Addr × Obj)) (a : Addr) (s : Shared) (v : Value) (s' : Shared) : Prop :=
  ∃ h' tk', v = .ref a ∧ s' = { s with heap := h', toks := tk' } ∧ Fr h₀ L h' m ∧ News h₀ L h' news
theorem lex_trans {a b c d e f : Int} (h1 : lexlt a b e f = false) (h2 : lexlt c d e f = true) : lexlt a b c d = false := by
  unfold lexlt at *
  simp only [decide_eq_false_iff_not, decide_eq_true_eq] at *
  omega
theorem lex_irr {a b : Int} : lexlt a b a b = false := by
  unfold lexlt
  simp
section
variable {prog : Program} {w : World} {A : Around} {K : Frag} {E : Value → Shared → Prop} {s : Shared} {h₀ : Heap} {L q I S r : Addr} {m : Str → Option Value} {news : List (Addr × Obj)} {R : Result → Shared → Prop} {Q : Value → Shared → Prop}
  {n : Nat} {pa : Nat → Addr} {px : Nat → Int × Int}
theorem min_loop (hh : A.handled = none) (X₀ : K.In h₀) (e : inTup K) (hlt : findIn K (.ref 146) (cmpInfo .Lt).2.1 = some (some (.builtin "tuple.__lt__"))) (hu : A.units + 1 < cLine) (hSI : S ≠ I) (hnS : ∀ p ∈ news, p.1 ≠ S) (hnI : ∀ p ∈ news, p.1 ≠ I)
    (hpt : ∀ i < n, ∃ t u k d, (pa i, pnt (px i).1 t (px i).2 u k d) ∈ news)
    (turn : ∀ i < n, ∀ (t : Tok) (h : Heap) (tk : Nat) (own : List (Addr × Obj)), Fr h₀ L h m → News h₀ L h (news ++ own) →
      wpAny (model prog w) A.in1 (call (.ref q) [.int (i : Int) t]) (KPt h₀ L m (news ++ own) (pa i) { s with heap := h, toks := tk }) (fun _ _ => False) { s with heap := h, toks := tk })
    (hR : ∀ i t h' tk', i < n → (∀ j < n, lexlt (px j).1 (px j).2 (px i).1 (px i).2 = false) → Fr h₀ L h' m → News h₀ L h' news → R (.ok (.ret (.int (i : Int) t))) { s with heap := h', toks := tk' }) :
    ∀ (r j i : Nat) (h : Heap) (tk : Nat) (tb : Tok) (c : Nat) (oI : Obj), n - (j + 1) = r → j + 1 ≤ n → Fr h₀ L h m →
      News h₀ L h (news ++ [(S, seqObj "list" #[.int (i : Int) tb, .ref (pa i)] c), (I, oI)]) → IsRangeIter h I (0 + ((j + 1 : Nat) : Int) * 1) ((n : Int) - ((j + 1 : Nat) : Int)) 1 → i ≤ j → (∀ j', j' ≤ j → lexlt (px j').1 (px j').2 (px i).1 (px i).2 = false) →
      codeAny (model prog w) A (.builtin "min.loop" ⟨[.ref I, .ref q, .ref S], []⟩) R { s with heap := h, toks := tk } := by
  have hname : (toString "min" ++ toString ".loop" : String) = "min.loop" := by decide
  have W := Walks.range (prog := prog) (w := w) (A := A.in1) hh I 0 1 n
  intro r
  induction r with
  | zero =>
    intro j i h tk tb c oI hr hj F N hit hij hbest
    have hin : j + 1 = n := by omega
    have nS := N (S, seqObj "list" #[.int (i : Int) tb, .ref (pa i)] c) (List.mem_append_right _ (.head _))
    have nI := N (I, oI) (List.mem_append_right _ (.tail _ (.head _)))
    have Nn : News h₀ L h news := fun p hp => N p (List.mem_append_left _ hp)
    refine codeAny_builtin PySem.F.entry_min_loop ?_
    rw [Around.under_plainId PySem.F.plain_min_loop _]
    show wpAny _ A.in1 (seqItems? (.ref S) >>= _) _ _ _
    refine wpAny_bind (wpAny_seqItems nS.1 rfl ?_)
    show wpAny _ A.in1 (tryCatch (pyNext (.ref I)) _ >>= _) _ _ _
    refine wpAny_bind (wpAny_tryCatch (W.done _ _ _ (by rw [← hin]; rw [← hin] at hit; exact hit) fun h' tk' hk' => ?_))
    have F1 := kmk_fr F hk' nI.2.1 nI.2.2
    have N1 := kmk_news Nn hk' hnI
    have hS' := hk' S _ (by simpa using hSI) nS.1
    have s1 := Heap.SameBut.update h' S (Obj.mapSeq fun _ => (#[] : Array Value))
    show wpAny _ A.in1 (updateSeq S (fun _ => #[]) >>= _) _ _ _
    refine wpAny_bind ?_
    refine wpAny_updateSeq hS' rfl (wpAny_bind (wpAny_letGo (wpAny_pure ?_)))
    exact hR i tb _ _ (by omega) (fun j' hj' => hbest j' (by omega)) (ksk_fr F1 s1 nS.2.1 nS.2.2) (ksk_news N1 s1 hnS)
  | succ r ih =>
    intro j i h tk tb c oI hr hj F N hit hij hbest
    have hlt' : j + 1 < n := by omega
    have nS := N (S, seqObj "list" #[.int (i : Int) tb, .ref (pa i)] c) (List.mem_append_right _ (.head _))
    have nI := N (I, oI) (List.mem_append_right _ (.tail _ (.head _)))
    have Nn : News h₀ L h news := fun p hp => N p (List.mem_append_left _ hp)
    refine codeAny_builtin PySem.F.entry_min_loop ?_
    rw [Around.under_plainId PySem.F.plain_min_loop _]
    show wpAny _ A.in1 (seqItems? (.ref S) >>= _) _ _ _
    refine wpAny_bind (wpAny_seqItems nS.1 rfl ?_)
    show wpAny _ A.in1 (tryCatch (pyNext (.ref I)) _ >>= _) _ _ _
    refine wpAny_bind (wpAny_tryCatch (W.item (j + 1) _ _ _ hlt' hit fun v h' tk' hP hst' hk' => ?_))
    obtain ⟨tv, rfl⟩ := hP
    have e0 : (0 : Int) + ((j + 1 : Nat) : Int) * 1 = ((j + 1 : Nat) : Int) := by omega
    rw [e0]
    obtain ⟨oI', gI, hoI⟩ : ∃ o, h'.get? I = some o ∧ ∀ g : Heap, g.get? I = some o → IsRangeIter g I (0 + ((j + 1 + 1 : Nat) : Int) * 1) ((n : Int) - ((j + 1 + 1 : Nat) : Int)) 1 := ⟨_, hst', fun _ e => e⟩
    have F1 := kmk_fr F hk' nI.2.1 nI.2.2
    have N1 : News h₀ L h' (news ++ [(S, seqObj "list" #[.int (i : Int) tb, .ref (pa i)] c), (I, oI')]) := fun p hp => by
      rcases List.mem_append.mp hp with hp | hp
      · exact kmk_news Nn hk' hnI p hp
      · rcases List.mem_cons.mp hp with rfl | hp
        · exact ⟨hk' S _ (by simpa using hSI) nS.1, nS.2⟩
        · rw [List.mem_singleton.mp hp]
          exact ⟨gI, nI.2⟩
    show wpAny _ A.in1 (tryCatch (holding [.int ((j + 1 : Nat) : Int) tv] (call (.ref q) [.int ((j + 1 : Nat) : Int) tv])) _ >>= _) _ _ _
    refine wpAny_bind (wpAny_tryCatch (wpAny_holding (wpAny_mono (turn (j + 1) hlt' tv h' tk' _ F1 N1) (fun x s'' he => ?_) fun _ _ hF => hF.elim)))
    obtain ⟨h2, tk2, rfl, rfl, F2, N2⟩ := he
    have nS2 := N2 (S, seqObj "list" #[.int (i : Int) tb, .ref (pa i)] c) (List.mem_append_right _ (.head _))
    have nI2 := N2 (I, oI') (List.mem_append_right _ (.tail _ (.head _)))
    obtain ⟨ta, ua, ka, da, ma⟩ := hpt (j + 1) hlt'
    obtain ⟨tc, uc, kc, dc, mc⟩ := hpt i (by omega)
    show wpAny _ A.in1 (tryCatch (holding [.int ((j + 1 : Nat) : Int) tv, .ref (pa (j + 1))] (richCompare .Lt (.ref (pa (j + 1))) (.ref (pa i)) >>= _)) _ >>= _) _ _ _
    refine wpAny_bind (wpAny_tryCatch (wpAny_holding (wpAny_bind (pt_rlt (X₀.keeps F2.keep) (N2 _ (List.mem_append_left _ ma)).1 (N2 _ (List.mem_append_left _ mc)).1 e hlt hu ?_))))
    refine wpAny_bind (wpAny_holding (wpAny_truthy_bool ?_))
    refine wpAny_bind (wpAny_letGo (wpAny_pure ?_))
    cases hb' : lexlt (px (j + 1)).1 (px (j + 1)).2 (px i).1 (px i).2 with
    | true =>
      have s1 := Heap.SameBut.update h2 S (Obj.mapSeq fun _ => #[.int ((j + 1 : Nat) : Int) tv, .ref (pa (j + 1))])
      obtain ⟨c2, hc2⟩ : ∃ c2, (h2.update S (Obj.mapSeq fun _ => #[.int ((j + 1 : Nat) : Int) tv, .ref (pa (j + 1))])).get? S = some (seqObj "list" #[.int ((j + 1 : Nat) : Int) tv, .ref (pa (j + 1))] c2) := ⟨_, get?_update_seq nS2.1 fun _ => #[.int ((j + 1 : Nat) : Int) tv, .ref (pa (j + 1))]⟩
      simp only [if_true]
      refine wpAny_bind ?_
      refine wpAny_updateSeq nS2.1 rfl (wpAny_bind (wpAny_letGo ?_))
      rw [hname]
      refine wpAny_pure ⟨plainId_quiet PySem.F.plain_min_loop _, ih (j + 1) (j + 1) _ _ tv c2 oI' (by omega) hlt' (ksk_fr F2 s1 nS2.2.1 nS2.2.2) (fun p hp => ?_) (hoI _ ((s1.2 I hSI.symm).trans nI2.1)) (Nat.le_refl _) fun j' hj' => ?_⟩
      · rcases List.mem_append.mp hp with hp | hp
        · exact ksk_news (fun p hp => N2 p (List.mem_append_left _ hp)) s1 hnS p hp
        · rcases List.mem_cons.mp hp with rfl | hp
          · exact ⟨hc2, nS2.2⟩
          · rw [List.mem_singleton.mp hp]
            exact ⟨(s1.2 I hSI.symm).trans nI2.1, nI2.2⟩
      · by_cases e : j' = j + 1
        · subst e
          exact lex_irr
        · exact lex_trans (hbest j' (by omega)) hb'
    | false =>
      simp only [Bool.false_eq_true, if_false]
      refine wpAny_bind (wpAny_letGo ?_)
      rw [hname]
      refine wpAny_pure ⟨plainId_quiet PySem.F.plain_min_loop _, ih (j + 1) i _ _ tb c oI' (by omega) hlt' F2 N2 (hoI _ nI2.1) (by omega) fun j' hj' => ?_⟩
      by_cases e : j' = j + 1
      · subst e
        exact hb'
      · exact hbest j' (by omega)
theorem min_range {t0 u0 v0 : Tok} (hh : A.handled = none) (F : Fr h₀ L s.heap m) (N : News h₀ L s.heap news) (hr : IsRange s.heap r 0 n 1 t0 u0 v0) (hn0 : 0 < n) (hn : n < 2 ^ 61) (X₀ : K.In h₀) (e : inTup K) (hlt : findIn K (.ref 146) (cmpInfo .Lt).2.1 = some (some (.builtin "tuple.__lt__"))) (hu : A.units + 1 < cLine)
    (hpt : ∀ i < n, ∃ t u k d, (pa i, pnt (px i).1 t (px i).2 u k d) ∈ news)
    (turn : ∀ i < n, ∀ (t : Tok) (h : Heap) (tk : Nat) (own : List (Addr × Obj)), Fr h₀ L h m → News h₀ L h (news ++ own) →
      wpAny (model prog w) A.in1 (call (.ref q) [.int (i : Int) t]) (KPt h₀ L m (news ++ own) (pa i) { s with heap := h, toks := tk }) (fun _ _ => False) { s with heap := h, toks := tk })
    (hQ : ∀ i t h' tk', i < n → (∀ j < n, lexlt (px j).1 (px j).2 (px i).1 (px i).2 = false) → Fr h₀ L h' m → News h₀ L h' news → Q (.int (i : Int) t) { s with heap := h', toks := tk' }) :
    wpAny (model prog w) A (call (.builtin "min") [.ref r] [(Str.ofString "key", .ref q)]) Q E s := by
  have hname : (toString "min" ++ toString ".loop" : String) = "min.loop" := by decide
  have hL : L < s.heap.objs.size := F.ns.lt
  refine kmk_tree PySem.F.kind_min PySem.F.plain_min PySem.F.entry_min (kmk_min_key _ _) ?_
  show wpAny _ A.in1 (Builtin.Builtins.bindParams "min" ["key", "default"] 0 ⟨[], [(Str.ofString "key", .ref q)]⟩ >>= _) _ _ s
  refine wpAny_bind (wpAny_of_eq (show Builtin.Builtins.bindParams "min" ["key", "default"] 0 ⟨[], [(Str.ofString "key", .ref q)]⟩ = pure [some (.ref q), none] from rfl) ?_)
  refine wpAny_bind (wpAny_pure ?_)
  refine wpAny_bind (wpAny_pyIter_range hr (small_one (by decide) (by decide) (by omega) (by omega)) ?_)
  have hsz : Builtin.Range.rangeSize 0 (n : Int) 1 = (n : Int) := by rw [rangeSize_nat]; omega
  rw [hsz]
  obtain ⟨o0, ho0⟩ : ∃ o0 : Obj, o0 = { cls := .type "range_iterator", data := .fields #[rawInt 0, rawInt n, rawInt 1] } := ⟨_, rfl⟩
  rw [← ho0]
  refine wpAny_bind (wpAny_newList ?_ (Nat.zero_le _))
  rw [hname]
  have hS : (s.heap.push o0).objs.size = s.heap.objs.size + 1 := size_push' ..
  have hSI : (s.heap.push o0).objs.size ≠ s.heap.objs.size := by rw [hS]; exact Nat.ne_of_gt (Nat.lt_succ_self _)
  have hnI : ∀ p ∈ news, p.1 ≠ s.heap.objs.size := fun p hp => Nat.ne_of_lt (Heap.lt_size (N p hp).1)
  have hnS : ∀ p ∈ news, p.1 ≠ (s.heap.push o0).objs.size := fun p hp => by rw [hS]; exact Nat.ne_of_lt (Nat.lt_succ_of_lt (Heap.lt_size (N p hp).1))
  refine wpAny_pure ⟨plainId_quiet PySem.F.plain_min_loop _, ?_⟩
  have fresh : ∀ b, L < b → h₀.get? b = none := fun b hb => Heap.get?_none_of_le (Nat.le_trans F.above (Nat.le_of_lt hb))
  have FH : Fr h₀ L ((s.heap.push o0).push (seqObj "list" #[] 0)) m := (F.push _).push _
  have NH : News h₀ L ((s.heap.push o0).push (seqObj "list" #[] 0)) news := N.grown fun b x e => Heap.get?_push_of_some _ (Heap.get?_push_of_some _ e)
  have gI : ((s.heap.push o0).push (seqObj "list" #[] 0)).get? s.heap.objs.size = some o0 := Heap.get?_push_of_some _ (Heap.get?_push_size _ (by rw [ho0]; rfl))
  have gS : ((s.heap.push o0).push (seqObj "list" #[] 0)).get? (s.heap.push o0).objs.size = some (seqObj "list" #[] 0) := Heap.get?_push_size _ rfl
  have aI : s.heap.objs.size ≠ L := Nat.ne_of_gt hL
  have aS : (s.heap.push o0).objs.size ≠ L := by rw [hS]; exact Nat.ne_of_gt (Nat.lt_succ_of_lt hL)
  have zS : h₀.get? (s.heap.push o0).objs.size = none := fresh _ (by rw [hS]; exact Nat.lt_succ_of_lt hL)
  have W := Walks.range (prog := prog) (w := w) (A := A.in1) hh s.heap.objs.size 0 1 n
  refine codeAny_builtin PySem.F.entry_min_loop ?_
  rw [Around.under_plainId PySem.F.plain_min_loop _]
  show wpAny _ A.in1 (seqItems? (.ref _) >>= _) _ _ _
  refine wpAny_bind (wpAny_seqItems gS rfl ?_)
  show wpAny _ A.in1 (tryCatch (pyNext (.ref s.heap.objs.size)) _ >>= _) _ _ _
  refine wpAny_bind (wpAny_tryCatch (W.item 0 _ _ _ hn0 (by show Heap.get? _ _ = some _; rw [gI, ho0]; simp) fun v h' tk' hP hst' hk' => ?_))
  obtain ⟨tv, rfl⟩ := hP
  have e0 : (0 : Int) + ((0 : Nat) : Int) * 1 = ((0 : Nat) : Int) := by omega
  rw [e0]
  obtain ⟨oI', gI', hoI⟩ : ∃ o, h'.get? s.heap.objs.size = some o ∧ ∀ g : Heap, g.get? s.heap.objs.size = some o → IsRangeIter g s.heap.objs.size (0 + ((0 + 1 : Nat) : Int) * 1) ((n : Int) - ((0 + 1 : Nat) : Int)) 1 := ⟨_, hst', fun _ e => e⟩
  have F1 := kmk_fr FH hk' aI (fresh _ hL)
  have N1 : News h₀ L h' (news ++ [((s.heap.push o0).objs.size, seqObj "list" #[] 0), (s.heap.objs.size, oI')]) := fun p hp => by
    rcases List.mem_append.mp hp with hp | hp
    · exact kmk_news NH hk' hnI p hp
    · rcases List.mem_cons.mp hp with rfl | hp
      · exact ⟨hk' _ _ (by simpa using hSI) gS, aS, zS⟩
      · rw [List.mem_singleton.mp hp]
        exact ⟨gI', aI, fresh _ hL⟩
  show wpAny _ A.in1 (tryCatch (holding [.int ((0 : Nat) : Int) tv] (call (.ref q) [.int ((0 : Nat) : Int) tv])) _ >>= _) _ _ _
  refine wpAny_bind (wpAny_tryCatch (wpAny_holding (wpAny_mono (turn 0 hn0 tv h' tk' _ F1 N1) (fun x s'' he => ?_) fun _ _ hF => hF.elim)))
  obtain ⟨h2, tk2, rfl, rfl, F2, N2⟩ := he
  have nS2 := N2 ((s.heap.push o0).objs.size, seqObj "list" #[] 0) (List.mem_append_right _ (.head _))
  have nI2 := N2 (s.heap.objs.size, oI') (List.mem_append_right _ (.tail _ (.head _)))
  have s1 := Heap.SameBut.update h2 (s.heap.push o0).objs.size (Obj.mapSeq fun _ => #[.int ((0 : Nat) : Int) tv, .ref (pa 0)])
  obtain ⟨c2, hc2⟩ : ∃ c2, (h2.update (s.heap.push o0).objs.size (Obj.mapSeq fun _ => #[.int ((0 : Nat) : Int) tv, .ref (pa 0)])).get? (s.heap.push o0).objs.size = some (seqObj "list" #[.int ((0 : Nat) : Int) tv, .ref (pa 0)] c2) := ⟨_, get?_update_seq nS2.1 fun _ => #[.int ((0 : Nat) : Int) tv, .ref (pa 0)]⟩
  show wpAny _ A.in1 (updateSeq (s.heap.push o0).objs.size (fun _ => #[.int ((0 : Nat) : Int) tv, .ref (pa 0)]) >>= _) _ _ _
  refine wpAny_bind ?_
  refine wpAny_updateSeq nS2.1 rfl ?_
  rw [hname]
  refine wpAny_pure ⟨plainId_quiet PySem.F.plain_min_loop _, min_loop hh X₀ e hlt hu hSI hnS hnI hpt turn hQ _ 0 0 _ _ tv c2 oI' rfl hn0 (ksk_fr F2 s1 nS2.2.1 nS2.2.2) (fun p hp => ?_) (hoI _ ((s1.2 _ hSI.symm).trans nI2.1)) (Nat.le_refl _) fun j' hj' => ?_⟩
  · rcases List.mem_append.mp hp with hp | hp
    · exact ksk_news (fun p hp => N2 p (List.mem_append_left _ hp)) s1 hnS p hp
    · rcases List.mem_cons.mp hp with rfl | hp
      · exact ⟨hc2, nS2.2⟩
      · rw [List.mem_singleton.mp hp]
        exact ⟨(s1.2 _ hSI.symm).trans nI2.1, nI2.2⟩
  · have e : j' = 0 := by omega
    subst e
    exact lex_irr
end
end Mine
end
section
open PySem PySem.W PyProof.Rows
set_option Elab.async false
set_option maxRecDepth 100000
namespace Mine
set_option maxHeartbeats 8000000 in
theorem getx_ok {w : World} {p : Program} {loose : List Str} {mean : ExcName → Option Value} {mg mb : Str → Option Value}
  {dp un : Nat} {gd : Option (List Code)} {cn : Str} {cs : Scope} {la : Addr} {ccd : Value} {cl : List (Str × Addr)} {outer : List Env} {A₀ : Around} {base h₀ : Heap} {L : Addr} {m : Str → Option Value} {s : Shared} {Q E : Value → Shared → Prop}
  {news : List (Addr × Obj)} {x y : Int} {t u : Tok} {n : Nat} {a d : Addr}
  (B : Below A₀ base outer h₀) (F : Fr h₀ L s.heap m) (X : (Mine.hd.heap_1 w.params).In h₀)
  (N : News h₀ L s.heap news) (ha : (a, pnt x t y u n d) ∈ news) (hdd : (d, dictOf [] 0) ∈ news)
  (T : Top p loose mean mg mb h₀) (hk : cs.kind = .function) (hd : dp + 2 < recursionLimit) (hu : un + 20 < cLine)
  (hret : ∀ t h' tk', Fr h₀ L h' m → News h₀ L h' news → Q (.int x t) { s with heap := h', toks := tk' }) :
  wpAny (model PySem.Challenge.rw_ja0044_01.row.prog w) (ktrTop dp un gd cn cs L la ccd cl outer) (call (.ref 57) [.ref 138, .ref a, .ref 146]) Q E s := by
  k_with_none
  (k_with "call type:type" => (k_here; (with_reducible show wpAny _ _ (call (Value.type "type") [Value.ref _]) _ _ _); k_dflt (refine' pt_type ?zW0k1 ?zW0k2 ?zW0k3 ?_; (case zW0k1 => k_asm); (case zW0k2 => k_mem); (case zW0k3 => k_mem); k_whole)))
  (k_with "call builtin:issubclass" => (k_here; k_dflt (refine' pt_issub ?zW1k1 ?zW1k2 ?_; (case zW1k1 => k_in); (case zW1k2 => (unfold inTup; k_is)); k_whole)))
  (k_with "call builtin:tuple.__getitem__" => (k_here; k_dflt (refine' pt_getitem ?zW2k1 ?zW2k2 ?zW2k3 ?zW2k4 ?zW2k5 ?zW2k6 ?zW2k7 ?_; (case zW2k1 => decide); (case zW2k2 => decide); (case zW2k3 => exact rfl); (case zW2k4 => exact rfl); (case zW2k5 => k_in); (case zW2k6 => exact News.get (by k_asm) (by k_mem)); (case zW2k7 => (unfold inTup; k_is)); k_whole)))
  (k_with "getMethod type:tuple" => (k_here; (with_reducible show wpAny _ _ (getMethod _ (PySem.Str.ofString "__getitem__") _) _ _ _); k_dflt (refine' tuple_getm (a := Value.builtin "tuple.__getitem__") ?zW3k1 ?zW3k2 ?zW3k3 ?_; (case zW3k1 => k_in); (case zW3k2 => exact rfl); (case zW3k3 => k_handed); k_whole)))
  revert X; k_fill; intro X
  refine wpAny_call ?_
  k_dflt (refine' code_def ?k1 ?k2 ?k3 ?k4 ?k5 ?kA ?kF ?kK ?k6 ?k7 ?k8 ?k9 ?kB ?_ ?c2 ?c3 ?c4 ?c5; (case kA => exact rfl); (case kF => exact rfl); (case kK => assumption); (case k1 => k_asm); (case k2 => k_asm); (case k3 => k_asm); (case k4 => k_asm); (case k5 => k_asm); (case k6 => k_is); (case k7 => k_is); (case k8 => ktr_room); (case k9 => exact binds_K (by k_in) rfl (by k_is) rfl rfl rfl); (case c5 => decide); (case kB => exact locs rfl); (case c2 => exact rfl); (case c3 => exact rfl); (case c4 => exact rfl); k_whole; intro g' L' h' FG' F' N' B' X' T'; (try dsimp only); (try k_lift B'); (try k_fold))
  k_steps
  exact cb_retI (Q := Q) hret rfl (by k_asm) (cb_drop (by assumption) (fun p hp => hp))
set_option maxHeartbeats 8000000 in
theorem gety_ok {w : World} {p : Program} {loose : List Str} {mean : ExcName → Option Value} {mg mb : Str → Option Value}
  {dp un : Nat} {gd : Option (List Code)} {cn : Str} {cs : Scope} {la : Addr} {ccd : Value} {cl : List (Str × Addr)} {outer : List Env} {A₀ : Around} {base h₀ : Heap} {L : Addr} {m : Str → Option Value} {s : Shared} {Q E : Value → Shared → Prop}
  {news : List (Addr × Obj)} {x y : Int} {t u : Tok} {n : Nat} {a d : Addr}
  (B : Below A₀ base outer h₀) (F : Fr h₀ L s.heap m) (X : (Mine.hd.heap_1 w.params).In h₀)
  (N : News h₀ L s.heap news) (ha : (a, pnt x t y u n d) ∈ news) (hdd : (d, dictOf [] 0) ∈ news)
  (T : Top p loose mean mg mb h₀) (hk : cs.kind = .function) (hd : dp + 2 < recursionLimit) (hu : un + 20 < cLine)
  (hret : ∀ t h' tk', Fr h₀ L h' m → News h₀ L h' news → Q (.int y t) { s with heap := h', toks := tk' }) :
  wpAny (model PySem.Challenge.rw_ja0044_01.row.prog w) (ktrTop dp un gd cn cs L la ccd cl outer) (call (.ref 57) [.ref 141, .ref a, .ref 146]) Q E s := by
  k_with_none
  (k_with "call type:type" => (k_here; (with_reducible show wpAny _ _ (call (Value.type "type") [Value.ref _]) _ _ _); k_dflt (refine' pt_type ?zW0k1 ?zW0k2 ?zW0k3 ?_; (case zW0k1 => k_asm); (case zW0k2 => k_mem); (case zW0k3 => k_mem); k_whole)))
  (k_with "call builtin:issubclass" => (k_here; k_dflt (refine' pt_issub ?zW1k1 ?zW1k2 ?_; (case zW1k1 => k_in); (case zW1k2 => (unfold inTup; k_is)); k_whole)))
  (k_with "call builtin:tuple.__getitem__" => (k_here; k_dflt (refine' pt_getitem ?zW2k1 ?zW2k2 ?zW2k3 ?zW2k4 ?zW2k5 ?zW2k6 ?zW2k7 ?_; (case zW2k1 => decide); (case zW2k2 => decide); (case zW2k3 => exact rfl); (case zW2k4 => exact rfl); (case zW2k5 => k_in); (case zW2k6 => exact News.get (by k_asm) (by k_mem)); (case zW2k7 => (unfold inTup; k_is)); k_whole)))
  (k_with "getMethod type:tuple" => (k_here; (with_reducible show wpAny _ _ (getMethod _ (PySem.Str.ofString "__getitem__") _) _ _ _); k_dflt (refine' tuple_getm (a := Value.builtin "tuple.__getitem__") ?zW3k1 ?zW3k2 ?zW3k3 ?_; (case zW3k1 => k_in); (case zW3k2 => exact rfl); (case zW3k3 => k_handed); k_whole)))
  revert X; k_fill; intro X
  refine wpAny_call ?_
  k_dflt (refine' code_def ?k1 ?k2 ?k3 ?k4 ?k5 ?kA ?kF ?kK ?k6 ?k7 ?k8 ?k9 ?kB ?_ ?c2 ?c3 ?c4 ?c5; (case kA => exact rfl); (case kF => exact rfl); (case kK => assumption); (case k1 => k_asm); (case k2 => k_asm); (case k3 => k_asm); (case k4 => k_asm); (case k5 => k_asm); (case k6 => k_is); (case k7 => k_is); (case k8 => ktr_room); (case k9 => exact binds_K (by k_in) rfl (by k_is) rfl rfl rfl); (case c5 => decide); (case kB => exact locs rfl); (case c2 => exact rfl); (case c3 => exact rfl); (case c4 => exact rfl); k_whole; intro g' L' h' FG' F' N' B' X' T'; (try dsimp only); (try k_lift B'); (try k_fold))
  k_steps
  exact cb_retI (Q := Q) hret rfl (by k_asm) (cb_drop (by assumption) (fun p hp => hp))
set_option maxHeartbeats 8000000 in
theorem px_ok {w : World} {p : Program} {loose : List Str} {mean : ExcName → Option Value} {mg mb : Str → Option Value}
  {dp un : Nat} {gd : Option (List Code)} {cn : Str} {cs : Scope} {la : Addr} {ccd : Value} {cl : List (Str × Addr)} {outer : List Env} {A₀ : Around} {base h₀ : Heap} {L : Addr} {m : Str → Option Value} {s : Shared} {Q E : Value → Shared → Prop}
  {news : List (Addr × Obj)} {x y : Int} {t u : Tok} {n : Nat} {a d : Addr}
  (B : Below A₀ base outer h₀) (F : Fr h₀ L s.heap m) (X : (Mine.hd.heap_1 w.params).In h₀)
  (N : News h₀ L s.heap news) (ha : (a, pnt x t y u n d) ∈ news) (hdd : (d, dictOf [] 0) ∈ news)
  (T : Top p loose mean mg mb h₀) (hk : cs.kind = .function) (hd : dp + 2 < recursionLimit) (hu : un + 21 < cLine)
  (hret : ∀ t h' tk', Fr h₀ L h' m → News h₀ L h' news → Q (.int x t) { s with heap := h', toks := tk' }) :
  wpAny (model PySem.Challenge.rw_ja0044_01.row.prog w) (ktrTop dp un gd cn cs L la ccd cl outer) (getAttr (.ref a) (PySem.Str.ofString "x") true) Q E s := by
  have X0 := X
  revert X; k_fill; intro X
  refine pt_attr (gA := 57) (dsc := .ref 138) F X N ha hdd (by k_is) (by k_is) (by unfold inTup; k_is) (by k_is) (by k_is) (by k_is) ?_
  refine getx_ok (dp := dp) (un := un + 1) (gd := gd) (cn := cn) (cs := cs) (L := L) (la := la) (ccd := ccd) (cl := cl) (outer := outer) B F X (news := news) N ha hdd T hk hd (by omega) ?_
  intro t h' tk' F' N'
  rw [handedOut_of rfl]
  exact wpAny_pure (hret t h' tk' F' N')
set_option maxHeartbeats 8000000 in
theorem py_ok {w : World} {p : Program} {loose : List Str} {mean : ExcName → Option Value} {mg mb : Str → Option Value}
  {dp un : Nat} {gd : Option (List Code)} {cn : Str} {cs : Scope} {la : Addr} {ccd : Value} {cl : List (Str × Addr)} {outer : List Env} {A₀ : Around} {base h₀ : Heap} {L : Addr} {m : Str → Option Value} {s : Shared} {Q E : Value → Shared → Prop}
  {news : List (Addr × Obj)} {x y : Int} {t u : Tok} {n : Nat} {a d : Addr}
  (B : Below A₀ base outer h₀) (F : Fr h₀ L s.heap m) (X : (Mine.hd.heap_1 w.params).In h₀)
  (N : News h₀ L s.heap news) (ha : (a, pnt x t y u n d) ∈ news) (hdd : (d, dictOf [] 0) ∈ news)
  (T : Top p loose mean mg mb h₀) (hk : cs.kind = .function) (hd : dp + 2 < recursionLimit) (hu : un + 21 < cLine)
  (hret : ∀ t h' tk', Fr h₀ L h' m → News h₀ L h' news → Q (.int y t) { s with heap := h', toks := tk' }) :
  wpAny (model PySem.Challenge.rw_ja0044_01.row.prog w) (ktrTop dp un gd cn cs L la ccd cl outer) (getAttr (.ref a) (PySem.Str.ofString "y") true) Q E s := by
  have X0 := X
  revert X; k_fill; intro X
  refine pt_attr (gA := 57) (dsc := .ref 141) F X N ha hdd (by k_is) (by k_is) (by unfold inTup; k_is) (by k_is) (by k_is) (by k_is) ?_
  refine gety_ok (dp := dp) (un := un + 1) (gd := gd) (cn := cn) (cs := cs) (L := L) (la := la) (ccd := ccd) (cl := cl) (outer := outer) B F X (news := news) N ha hdd T hk hd (by omega) ?_
  intro t h' tk' F' N'
  rw [handedOut_of rfl]
  exact wpAny_pure (hret t h' tk' F' N')
end Mine
end
section
open PySem PySem.W PyProof.Rows
set_option Elab.async false
set_option maxRecDepth 100000
namespace Mine
theorem cb_retO {Q : Value → Shared → Prop} {h₀ h' : Heap} {L : Addr} {m : Str → Option Value} {news : List (Addr × Obj)} {s : Shared} {tk' : Nat} {x y : Addr} (hret : ∀ (h' : Heap) (tk' : Nat), Fr h₀ L h' m → News h₀ L h' news → Q (.ref x) { s with heap := h', toks := tk' }) (e : y = x) (F : Fr h₀ L h' m) (N : News h₀ L h' news) : Q (.ref y) { s with heap := h', toks := tk' } := by
  subst e
  exact hret h' tk' F N
def orien (v : Int) : Addr := if 0 < v then 192 else if v < 0 then 186 else 189
theorem ang_a {v : Int} (h : v > 0) : 192 = orien v := by unfold orien; rw [if_pos h]
theorem ang_b {v : Int} (h : ¬ v > 0) (h' : v < 0) : 186 = orien v := by unfold orien; rw [if_neg h, if_pos h']
theorem ang_c {v : Int} (h : ¬ v > 0) (h' : ¬ v < 0) : 189 = orien v := by unfold orien; rw [if_neg h, if_neg h']
set_option maxHeartbeats 8000000 in
theorem angle_code {w : World} {p : Program} {loose : List Str} {mean : ExcName → Option Value} {mg mb : Str → Option Value}
  {dp un : Nat} {gd : Option (List Code)} {cn : Str} {cs : Scope} {la : Addr} {ccd : Value} {cl : List (Str × Addr)} {outer : List Env} {A₀ : Around} {base h₀ : Heap} {L : Addr} {m : Str → Option Value} {s : Shared} {Q E : Value → Shared → Prop}
  {news : List (Addr × Obj)} {x1 y1 x2 y2 x3 y3 : Int} {t1 t2 t3 t4 t5 t6 : Tok} {n1 n2 n3 : Nat} {d1 d2 d3 a1 a2 a3 ctx : Addr}
  (B : Below A₀ base outer h₀) (F : Fr h₀ L s.heap m) (X : (Mine.hd.heap_1 w.params).In h₀)
  (N : News h₀ L s.heap news) (i1 : (a1, pnt x1 t1 y1 t2 n1 d1) ∈ news) (i2 : (a2, pnt x2 t3 y2 t4 n2 d2) ∈ news) (i3 : (a3, pnt x3 t5 y3 t6 n3 d3) ∈ news) (j1 : (d1, dictOf [] 0) ∈ news) (j2 : (d2, dictOf [] 0) ∈ news) (j3 : (d3, dictOf [] 0) ∈ news)
  (T : Top p loose mean mg mb h₀) (hk : cs.kind = .function) (hd : dp + 4 < recursionLimit) (hu : un + 50 < cLine)
  (b1 : -4 ≤ x2 - x1 ∧ x2 - x1 ≤ 4) (b2 : -4 ≤ y3 - y1 ∧ y3 - y1 ≤ 4) (b3 : -4 ≤ y2 - y1 ∧ y2 - y1 ≤ 4) (b4 : -4 ≤ x3 - x1 ∧ x3 - x1 ≤ 4)
  (hret : ∀ h' tk', Fr h₀ L h' m → News h₀ L h' news → Q (.ref (orien (crs x1 y1 x2 y2 x3 y3))) { s with heap := h', toks := tk' }) :
  codeAny (model PySem.Challenge.rw_ja0044_01.row.prog w) (ktrTop dp un gd cn cs L la ccd cl outer) (.call (.ref 263) ⟨[.ref ctx, .ref a1, .ref a2, .ref a3], []⟩) (fun r s' => match r with | .ok (.ret v) => Q v s' | .ok _ => False | .error e => E e s') s := by
  k_with_none
  (k_with "getAttr ref" => (k_here; (with_reducible show wpAny _ _ (getAttr (Value.ref _) (PySem.Str.ofString "x") _) _ _ _); k_dflt (refine' px_ok ?zW0k1 ?zW0k2 ?zW0k3 ?zW0k4 ?zW0k5 ?zW0k6 ?zW0k7 ?zW0kK ?zW0kd ?zW0ku ?_; (case zW0k1 => k_asm); (case zW0k2 => k_asm); (case zW0k3 => k_asm); (case zW0k4 => k_asm); (case zW0k5 => k_mem); (case zW0k6 => k_mem); (case zW0k7 => k_asm); (case zW0kK => first | exact rfl | assumption); (case zW0kd => ktr_room); (case zW0ku => ktr_units); k_whole); intro _ _ _ _ _; (try dsimp only)))
  (k_with "getAttr ref" => (k_here; (with_reducible show wpAny _ _ (getAttr (Value.ref _) (PySem.Str.ofString "y") _) _ _ _); k_dflt (refine' py_ok ?zW1k1 ?zW1k2 ?zW1k3 ?zW1k4 ?zW1k5 ?zW1k6 ?zW1k7 ?zW1kK ?zW1kd ?zW1ku ?_; (case zW1k1 => k_asm); (case zW1k2 => k_asm); (case zW1k3 => k_asm); (case zW1k4 => k_asm); (case zW1k5 => k_mem); (case zW1k6 => k_mem); (case zW1k7 => k_asm); (case zW1kK => first | exact rfl | assumption); (case zW1kd => ktr_room); (case zW1ku => ktr_units); k_whole); intro _ _ _ _ _; (try dsimp only)))
  revert X; k_fill; intro X
  k_dflt cell_enter
  k_steps
  all_goals exact cb_retO (Q := Q) hret (by first | exact ang_a (by assumption) | exact ang_b (by assumption) (by assumption) | exact ang_c (by assumption) (by assumption)) (by k_asm) (cb_drop (by assumption) (fun p hp => hp))
end Mine
end
section
open PySem PySem.W PyProof.Rows
set_option Elab.async false
set_option maxRecDepth 100000
namespace Mine
set_option maxHeartbeats 8000000 in
theorem new_ok {w : World} {p : Program} {loose : List Str} {mean : ExcName → Option Value} {mg mb : Str → Option Value}
  {dp un : Nat} {gd : Option (List Code)} {cn : Str} {cs : Scope} {la : Addr} {ccd : Value} {cl : List (Str × Addr)} {outer : List Env} {A₀ : Around} {base h₀ : Heap} {L : Addr} {m : Str → Option Value} {s : Shared} {Q E : Value → Shared → Prop}
  {news : List (Addr × Obj)} {x y : Int} {t u : Tok}
  (B : Below A₀ base outer h₀) (F : Fr h₀ L s.heap m) (X : (Mine.hd.heap_1 w.params).In h₀)
  (N : News h₀ L s.heap news)
  (T : Top p loose mean mg mb h₀) (hk : cs.kind = .function) (hd : dp + 2 < recursionLimit) (hu : un + 20 < cLine)
  (hret : ∀ D dx h' tk', Fr h₀ L h' m → News h₀ L h' ((D, pnt x t y u 0 dx) :: (dx, dictOf [] 0) :: news) → (∀ p ∈ news, p.1 < dx) → dx < D → Q (.ref D) { s with heap := h', toks := tk' }) :
  wpAny (model PySem.Challenge.rw_ja0044_01.row.prog w) (ktrTop dp un gd cn cs L la ccd cl outer) (call (.ref 96) [.ref 146, .int x t, .int y u]) Q E s := by
  k_with_none
  (k_with "getMethod type:tuple" => (k_here; (with_reducible show wpAny _ _ (getMethod _ (PySem.Str.ofString "__new__") _) _ _ _); k_dflt (refine' tuple_getm (a := Value.builtin "tuple.__new__") ?zW0k1 ?zW0k2 ?zW0k3 ?_; (case zW0k1 => k_in); (case zW0k2 => exact rfl); (case zW0k3 => k_handed); k_whole)))
  (k_with "call builtin:tuple.__new__" => (k_here; k_dflt (refine' tn_call ?zW1k1 ?zW1k2 ?zW1k3 ?zW1k4 ?zW1k5 ?zW1k6 ?zW1k7 ?zW1k8 ?_; (case zW1k1 => k_asm); (case zW1k2 => k_asm); (case zW1k3 => k_asm); (case zW1k4 => exact ⟨_, _, _, _, by k_is, rfl, rfl, rfl, rfl⟩); (case zW1k5 => (unfold inTup; k_is)); (case zW1k6 => k_is); (case zW1k7 => k_mem); (case zW1k8 => exact Nat.le_of_ble_eq_true rfl); k_whole); intro _ _ _ _ _ l9 l8; (try k_lt l9); (try k_lt2 l8); (try k_sweep); (try (revert l9 l8; intro _ _))))
  revert X; k_fill; intro X
  refine wpAny_call ?_
  k_dflt cell_enter
  k_steps
  rename_i D9 d9 h9 _ _ l9 l8 kF kN _ _
  exact hret D9 d9 h9 _ kF (cb_drop kN (fun p hp => by
    simp only [List.mem_cons] at hp ⊢
    rcases hp with hp | hp | hp <;> simp [hp])) (fun p hp => ktn_ltOf l9.2 p hp) l8
set_option maxHeartbeats 8000000 in
theorem make_ok {w : World} {p : Program} {loose : List Str} {mean : ExcName → Option Value} {mg mb : Str → Option Value}
  {dp un : Nat} {gd : Option (List Code)} {cn : Str} {cs : Scope} {la : Addr} {ccd : Value} {cl : List (Str × Addr)} {outer : List Env} {A₀ : Around} {base h₀ : Heap} {L : Addr} {m : Str → Option Value} {s : Shared} {Q E : Value → Shared → Prop}
  {news : List (Addr × Obj)} {x y : Int} {t u : Tok}
  (B : Below A₀ base outer h₀) (F : Fr h₀ L s.heap m) (X : (Mine.hd.heap_1 w.params).In h₀)
  (N : News h₀ L s.heap news)
  (T : Top p loose mean mg mb h₀) (hk : cs.kind = .function) (hd : dp + 4 < recursionLimit) (hu : un + 40 < cLine)
  (hret : ∀ D dx h' tk', Fr h₀ L h' m → News h₀ L h' ((D, pnt x t y u 0 dx) :: (dx, dictOf [] 0) :: news) → (∀ p ∈ news, p.1 < dx) → dx < D → Q (.ref D) { s with heap := h', toks := tk' }) :
  wpAny (model PySem.Challenge.rw_ja0044_01.row.prog w) (ktrTop dp un gd cn cs L la ccd cl outer) (call (.ref 146) [.int x t, .int y u]) Q E s := by
  have X1 := X
  revert X; k_fill; intro X
  refine pt_call F X ⟨_, _, _, _, by k_is, rfl, rfl, rfl, rfl⟩ (by unfold inTup; k_is) (by k_is) (by k_is) (by k_is) (by k_is) (by k_is) (by k_is) (by k_is) (by k_is) (by k_is) ?_
  refine new_ok (s := { s with toks := s.toks + 1 }) B F X N T hk (by show dp + 1 + 2 < recursionLimit; omega) (by show un + 1 + 20 < cLine; omega) ?_
  intro D dx h' tk' F' N' l1 l2
  exact ⟨D, _, rfl, (N' _ (.head _)).1, rfl, X.keeps F'.keep, hret D dx h' tk' F' N' l1 l2⟩
end Mine
end
section
open PySem PySem.W PyProof.Rows
set_option Elab.async false
set_option maxRecDepth 100000
namespace Mine
open PySem.SeqAt
def PnAt (news : List (Addr × Obj)) (v : Value) (p : Int × Int) : Prop := ∃ a d t u k, v = .ref a ∧ (a, pnt p.1 t p.2 u k d) ∈ news ∧ (d, dictOf [] 0) ∈ news
def Pns (news : List (Addr × Obj)) (vs : List Value) (ps : List (Int × Int)) : Prop := vs.length = ps.length ∧ ∀ i : Nat, i < ps.length → ∃ v, vs[i]? = some v ∧ PnAt news v (ptAt ps i)
def paOf (vs : List Value) (i : Nat) : Addr := match vs[i]? with | some (.ref a) => a | _ => 0
theorem Pns.get {news : List (Addr × Obj)} {vs : List Value} {ps : List (Int × Int)} (h : Pns news vs ps) {i : Nat} (hi : i < vs.length) : vs[i]? = some (.ref (paOf vs i)) ∧ ∃ t u k d, (paOf vs i, pnt (ptAt ps i).1 t (ptAt ps i).2 u k d) ∈ news ∧ (d, dictOf [] 0) ∈ news := by
  obtain ⟨v, hv, a, d, t, u, k, rfl, h1, h2⟩ := h.2 i (by rw [← h.1]; exact hi)
  have e : paOf vs i = a := by unfold paOf; rw [hv]
  rw [e]
  exact ⟨hv, t, u, k, d, h1, h2⟩
section
variable {prog : Program} {w : World} {A : Around} {E : Value → Shared → Prop} {s : Shared} {h₀ : Heap} {L : Addr} {m : Str → Option Value} {news rest : List (Addr × Obj)} {Q : Value → Shared → Prop} {l : Addr} {vs : List Value} {n : Nat} {ps : List (Int × Int)}
theorem pn_item {value slice : PySem.Expr} {k : Int} {u : Tok} (N : News h₀ L s.heap news) (hm : (l, listOf vs.toArray n) ∈ news) (hp : Pns rest vs ps) (h0 : 0 ≤ k) (h1 : k < vs.length) (hfit : k < 2 ^ 63)
    (h : Q (.ref (paOf vs k.toNat)) s)
    (hs : subscripted slice false (.ref l) (.int k u) = operate [.ref l, .int k u] (getItem (.ref l) (.int k u)) := by with_unfolding_all rfl) :
    wpAny (model prog w) A (subscriptTail value slice (.ref l) (.int k u)) Q E s := by
  have hl : s.heap.IsList l vs.toArray := ⟨_, (N _ hm).1, rfl, n, rfl⟩
  have hk := (hp.get (i := k.toNat) (by omega)).1
  exact tail_any hl.typeIs slot_list_getitem.lookup (wpAny_getItem_list hl h0 hfit (x := .ref (paOf vs k.toNat)) (by simpa using hk) h) hs
abbrev rngO (n : Int) (t u v : Tok) : Obj := { cls := .type "range", data := .fields #[.int 0 t, .int n u, .int 1 v] }
theorem range_N {n : Int} {t0 : Tok} (F : Fr h₀ L s.heap m) (N : News h₀ L s.heap news)
    (h : ∀ D t u v h' tk', Fr h₀ L h' m → News h₀ L h' ((D, rngO n t u v) :: news) → (∀ p ∈ news, p.1 < D) → Q (.ref D) { s with heap := h', toks := tk' }) : wpAny (model prog w) A (call (.type "range") [.int n t0]) Q E s :=
  call_range_1 (h _ _ _ _ _ _ (F.push _) (N.push F _) fun p hp => Heap.lt_size (N p hp).1)
end
local macro_rules | `(tactic| k_mem) => `(tactic| first | assumption | ((with_reducible refine' memR ?_); k_mem))
theorem gt_ne {l : List (Addr × Obj)} {c : Addr} (h : ∀ q ∈ l, @LT.lt Nat _ c q.1) : ∀ p ∈ l, p.1 ≠ c := fun p hp e => by
  have := h p hp
  rw [e] at this
  exact Nat.lt_irrefl _ this
local macro_rules | `(tactic| k_all) => `(tactic| (refine' gt_ne ?ha; (case ha => assumption)))
set_option maxHeartbeats 8000000 in
theorem arg_ok {w : World} {p : Program} {loose : List Str} {mean : ExcName → Option Value} {mg mb : Str → Option Value}
  {dp un : Nat} {gd : Option (List Code)} {cn : Str} {cs : Scope} {la : Addr} {ccd : Value} {cl : List (Str × Addr)} {outer : List Env} {A₀ : Around} {base h₀ : Heap} {L : Addr} {m : Str → Option Value} {s : Shared} {Q E : Value → Shared → Prop}
  {rest : List (Addr × Obj)} {l : Addr} {n : Nat} {vs : List Value} {ps : List (Int × Int)}
  (B : Below A₀ base outer h₀) (F : Fr h₀ L s.heap m) (X : (Mine.hd.heap_1 w.params).In h₀) (C : CodeHd base 27 23)
  (N : News h₀ L s.heap ((l, listOf vs.toArray n) :: (23, tabObj #[]) :: rest)) (hl23 : @Ne Nat l 23) (hr23 : ∀ q ∈ rest, @LT.lt Nat _ 23 q.1) (hp : Pns rest vs ps) (h1 : 0 < vs.length) (h7 : vs.length ≤ 7)
  (T : Top p loose mean mg mb h₀) (hk : cs.kind = .function) (hd : dp + 4 < recursionLimit) (hu : un + 200 < cLine)
  (hret : ∀ (i : Nat) (t : Tok) (tb : Array Value) h' tk', i < vs.length → (∀ j < vs.length, lexlt (ptAt ps j).1 (ptAt ps j).2 (ptAt ps i).1 (ptAt ps i).2 = false) → Fr h₀ L h' m → News h₀ L h' ((l, listOf vs.toArray n) :: (23, tabObj tb) :: rest) → Q (.int (i : Int) t) { s with heap := h', toks := tk' }) :
  wpAny (model PySem.Challenge.rw_ja0044_01.row.prog w) (ktrTop dp un gd cn cs L la ccd cl outer) (call (.ref 28) [.ref l]) Q E s := by
  k_with_none
  (k_with "call type:range" => (k_here; (with_reducible show wpAny _ _ (call _ [Value.int _ _]) _ _ _); k_dflt (refine' range_N ?zW0k1 ?zW0k2 ?_; (case zW0k1 => k_asm); (case zW0k2 => k_asm); k_whole); intro _ _ _ _ _ _ _ _ l9; (try k_lt l9); (try k_sweep); (try (revert l9; intro _))))
  (k_with "call builtin:len" => (k_here; k_dflt (refine' len_vs ?zW1k1 ?zW1k2 ?zW1k3 ?_; (case zW1k1 => k_asm); (case zW1k2 => k_mem); (case zW1k3 => omega))))
  (k_with "subscriptTail" => (k_here; (with_reducible show wpAny _ _ (subscriptTail _ _ (Value.ref _) (Value.int _ _)) _ _ _); k_dflt (refine' pn_item ?zW2k1 ?zW2k2 ?zW2k3 ?zW2k4 ?zW2k5 ?zW2k6 ?_ ?zW2k7; (case zW2k1 => k_asm); (case zW2k2 => k_mem); (case zW2k3 => assumption); (case zW2k4 => first | omega | assumption); (case zW2k5 => first | omega | assumption); (case zW2k6 => omega); (case zW2k7 => with_unfolding_all rfl); k_whole)))
  (k_with "call builtin:min" => (with_reducible refine hold ?_))
  revert X; k_fill; intro X
  refine wpAny_call ?_
  k_dflt (refine' code_defC ?k1 ?k2 ?k3 ?k4 ?k5 ?kA ?kF ?kK ?k6 ?k7 ?k8 ?k9 ?kB ?kD ?_ ?c2 ?c3 ?c4; (case kA => exact rfl); (case kF => exact rfl); (case kK => assumption); (case k1 => k_asm); (case k2 => k_asm); (case k3 => k_asm); (case k4 => k_asm); (case k5 => k_asm); (case k6 => k_is); (case k7 => k_is); (case k8 => ktr_room); (case k9 => exact BindsTo.of_eq rfl); (case kB => exact rfl); (case kD => decide +kernel); (case c2 => exact rfl); (case c3 => exact rfl); (case c4 => exact rfl); k_whole)
  intro g' L' h' tk' cells' FG' F' N' Y' B' X' T' l1
  have hA9 := allLt_of l1
  k_lt l1
  have hY := CellsAre.one Y'
  obtain ⟨o1, hE', d1⟩ := hY
  subst hE'
  simp only [List.cons_append, List.nil_append] at N'
  have c1 : o1.data = .cell (some (.ref l)) := d1
  clear d1 hA9
  (try dsimp only); (try k_lift B'); (try k_fold)
  k_steps
  rename_i D9 t9 u9 v9 h9 tk9 _ _ l9 f9 c9 oc9 vs9 tt9 ct9 h10 tk10 F10 N10 d19 d29 l19 l29
  unfold Hold
  refine' min_range (q := f9) (r := D9) (t0 := t9) (u0 := u9) (v0 := v9) (n := vs.length) (pa := paOf vs) (px := fun i => ptAt ps i) rfl F10 N10 ?hr h1 (by omega) X' ?hi ?hl ?hu ?hp ?ht ?hq
  case hr => exact (N10 (D9, rngO (vs.length : Int) t9 u9 v9) (by k_mem)).1
  case hi => unfold inTup; k_is
  case hl => k_is
  case hu => ktr_units
  case hp =>
    intro i hi
    obtain ⟨_, t, u, k, d, m1, m2⟩ := hp.get hi
    exact ⟨t, u, k, d, by repeat (first | exact m1 | refine List.Mem.tail _ ?_)⟩
  case ht =>
    intro i hi t h tk own FI NI
    simp only [List.cons_append] at NI
    refine wpAny_call ?_
    k_dflt (refine' kla_code ?k1 ?k2 ?k3 ?k4 ?k5 ?kA ?kF ?kK ?k6 ?k7 ?k8 ?k9 ?kB ?_ ?c2 ?c3 ?c4 ?c5; (case kA => exact rfl); (case kF => exact rfl); (case kK => exact rfl); (case k1 => k_asm); (case k2 => k_asm); (case k3 => k_asm); (case k4 => k_asm); (case k5 => k_asm); (case k6 => k_mem); (case k7 => exact codeRec_news (by k_asm) (by k_mem) (by assumption) (by assumption)); (case k8 => ktr_room); (case k9 => exact rfl); (case c5 => decide); (case kB => exact locs rfl); (case c2 => exact rfl); (case c3 => exact rfl); (case c4 => exact rfl); k_whole; intro g' L' h' FG' F' N' B' X' T'; (try dsimp only); (try k_lift B'); (try k_fold))
    k_steps
    refine ⟨_, _, rfl, rfl, by k_asm, ?_⟩
    simp only [List.cons_append]
    k_asm
  case hq =>
    intro i t h tk hi hmin FI NI
    k_steps
    exact cb_retI (Q := Q) (fun t h' tk' F N => hret i t (#[] ++ #[rawInt ((6 : Nat) : Int), rawInt ((41 : Nat) : Int), Value.ref c9]) h' tk' hi hmin F N) rfl (by k_asm) (cb_drop (by assumption) (drop_rest (by k_mem) (drop_rest (by k_mem) (fun p hp => by repeat (first | exact hp | refine List.Mem.tail _ ?_)))))
end Mine
end
section
open PySem PySem.W PyProof.Rows
set_option Elab.async false
set_option maxRecDepth 100000
namespace Mine
open PySem.SeqAt
section
variable {prog : Program} {w : World} {A : Around} {E : Value → Shared → Prop} {s : Shared} {h₀ : Heap} {L : Addr} {m : Str → Option Value} {news rest : List (Addr × Obj)} {Q : Value → Shared → Prop} {l : Addr} {vs : List Value} {n : Nat} {ps : List (Int × Int)}
def wrap (n : Nat) (k : Int) : Nat := (k % (n : Int)).toNat
theorem pn_item2 {value slice : PySem.Expr} {k : Int} {u : Tok} (N : News h₀ L s.heap news) (hm : (l, listOf vs.toArray n) ∈ news) (hp : Pns rest vs ps) (h0 : -(vs.length : Int) ≤ k) (h1 : k < vs.length) (h7 : vs.length ≤ 7)
    (h : ∀ a t u' k' d, (a, pnt (ptAt ps (wrap vs.length k)).1 t (ptAt ps (wrap vs.length k)).2 u' k' d) ∈ rest → (d, dictOf [] 0) ∈ rest → Q (.ref a) s)
    (hs : subscripted slice false (.ref l) (.int k u) = operate [.ref l, .int k u] (getItem (.ref l) (.int k u)) := by with_unfolding_all rfl) :
    wpAny (model prog w) A (subscriptTail value slice (.ref l) (.int k u)) Q E s := by
  have hl : s.heap.IsList l vs.toArray := ⟨_, (N _ hm).1, rfl, n, rfl⟩
  have hn0 : 0 < vs.length := by omega
  have hw : wrap vs.length k < vs.length := by
    unfold wrap
    have h1 := Int.emod_nonneg k (b := (vs.length : Int)) (by omega)
    have h2 := Int.emod_lt_of_pos k (b := (vs.length : Int)) (by omega)
    omega
  obtain ⟨hv, t, u', k', d, m1, m2⟩ := hp.get (i := wrap vs.length k) hw
  have hq := h _ _ _ _ _ m1 m2
  by_cases hk : 0 ≤ k
  · have e : wrap vs.length k = k.toNat := by
      unfold wrap
      rw [Int.emod_eq_of_lt hk h1]
    rw [e] at hv hq
    exact tail_any hl.typeIs slot_list_getitem.lookup (wpAny_getItem_list hl hk (by omega) (x := .ref (paOf vs k.toNat)) (by simpa using hv) hq) hs
  · have e : wrap vs.length k = (k + vs.length).toNat := by
      unfold wrap
      rw [← Int.add_emod_right, Int.emod_eq_of_lt (by omega) (by omega)]
    rw [e] at hv hq
    have hz : vs.toArray.size = vs.length := List.size_toArray ..
    refine tail_any hl.typeIs slot_list_getitem.lookup (wpAny_getItem_list_neg (x := .ref (paOf vs (k + vs.length).toNat)) hl (by omega) (by rw [hz]; omega) (by omega) ?_ hq) hs
    rw [hz]
    simpa using hv
end
theorem wrap_lt {n : Nat} {k : Int} (h : 0 < n) : wrap n k < n := by
  unfold wrap
  have h1 := Int.emod_nonneg k (b := (n : Int)) (by omega)
  have h2 := Int.emod_lt_of_pos k (b := (n : Int)) (by omega)
  omega
theorem fm_lo {n : Nat} {k : Int} (_h : 0 < n) : -(n : Int) ≤ k.fmod n := by
  have h1 := Int.fmod_nonneg_of_pos k (b := (n : Int)) (by omega)
  omega
theorem fm_hi {n : Nat} {k : Int} (h : 0 < n) : k.fmod n < n := Int.fmod_lt_of_pos k (by omega)
def Near (a b : Int) (ps : List (Int × Int)) : Prop := ∀ p ∈ ps, (a ≤ p.1 ∧ p.1 ≤ a + 4) ∧ (b ≤ p.2 ∧ p.2 ≤ b + 4)
theorem near_x {a b : Int} {ps : List (Int × Int)} {vs : List Value} {k1 k2 : Int} (h : Near a b ps) (hn : vs.length = ps.length) (h0 : 0 < vs.length) : -4 ≤ (ptAt ps (wrap vs.length k1)).1 - (ptAt ps (wrap vs.length k2)).1 ∧ (ptAt ps (wrap vs.length k1)).1 - (ptAt ps (wrap vs.length k2)).1 ≤ 4 := by
  have m1 := h _ (ptAt_mem (ps := ps) (k := (wrap vs.length k1 : Nat)) (by omega) (by have := wrap_lt (k := k1) h0; omega))
  have m2 := h _ (ptAt_mem (ps := ps) (k := (wrap vs.length k2 : Nat)) (by omega) (by have := wrap_lt (k := k2) h0; omega))
  omega
theorem near_y {a b : Int} {ps : List (Int × Int)} {vs : List Value} {k1 k2 : Int} (h : Near a b ps) (hn : vs.length = ps.length) (h0 : 0 < vs.length) : -4 ≤ (ptAt ps (wrap vs.length k1)).2 - (ptAt ps (wrap vs.length k2)).2 ∧ (ptAt ps (wrap vs.length k1)).2 - (ptAt ps (wrap vs.length k2)).2 ≤ 4 := by
  have m1 := h _ (ptAt_mem (ps := ps) (k := (wrap vs.length k1 : Nat)) (by omega) (by have := wrap_lt (k := k1) h0; omega))
  have m2 := h _ (ptAt_mem (ps := ps) (k := (wrap vs.length k2 : Nat)) (by omega) (by have := wrap_lt (k := k2) h0; omega))
  omega
def crsP (p q r : Int × Int) : Int := crs p.1 p.2 q.1 q.2 r.1 r.2
def told (ps : List (Int × Int)) (n i : Nat) : Int := crsP (ptAt ps (wrap n ((i : Int) - 1))) (ptAt ps (wrap n i)) (ptAt ps (wrap n (((i : Int) + 1).fmod n)))
local macro_rules | `(tactic| k_mem) => `(tactic| first | assumption | ((with_reducible refine' memR ?_); k_mem))
set_option maxHeartbeats 8000000 in
theorem contour_ok {w : World} {p : Program} {loose : List Str} {mean : ExcName → Option Value} {mg mb : Str → Option Value}
  {dp un : Nat} {gd : Option (List Code)} {cn : Str} {cs : Scope} {la : Addr} {ccd : Value} {cl : List (Str × Addr)} {outer : List Env} {A₀ : Around} {base h₀ : Heap} {L : Addr} {m : Str → Option Value} {s : Shared} {Q E : Value → Shared → Prop}
  {rest : List (Addr × Obj)} {l ct cd q ctx : Addr} {n kk : Nat} {hs : Int} {tk : Tok} {vs : List Value} {ps : List (Int × Int)}
  (B : Below A₀ base outer h₀) (F : Fr h₀ L s.heap m) (X : (Mine.hd.heap_1 w.params).In h₀) (C : CodeHd base 27 23)
  (N : News h₀ L s.heap ((l, listOf vs.toArray n) :: (23, tabObj #[]) :: rest)) (hl23 : @Ne Nat l 23) (hr23 : ∀ q ∈ rest, @LT.lt Nat _ 23 q.1)
  (mct : (ct, instObj 217 cd) ∈ rest) (mcd : (cd, dictOf [⟨hs, .str (Str.ofString "vertices") tk, .ref l⟩] kk) ∈ rest) (mq : (q, methodObj (.ref 263) (.ref ctx)) ∈ rest)
  (hp : Pns rest vs ps) {xa xb : Int} (hnear : Near xa xb ps) (hlen : vs.length = ps.length) (h3 : 3 ≤ vs.length) (h7 : vs.length ≤ 7)
  (T : Top p loose mean mg mb h₀) (hk : cs.kind = .function) (hd : dp + 6 < recursionLimit) (hu : un + 300 < cLine)
  (hret : ∀ (i : Nat) (tb : Array Value) h' tk', i < vs.length → (∀ j < vs.length, lexlt (ptAt ps j).1 (ptAt ps j).2 (ptAt ps i).1 (ptAt ps i).2 = false) → Fr h₀ L h' m → News h₀ L h' ((23, tabObj tb) :: rest) → Q (.ref (orien (told ps vs.length i))) { s with heap := h', toks := tk' }) :
  wpAny (model PySem.Challenge.rw_ja0044_01.row.prog w) (ktrTop dp un gd cn cs L la ccd cl outer) (call (.ref 35) [.ref ct, .ref q]) Q E s := by
  k_with_none
  (k_with "call builtin:len" => (k_here; k_dflt (refine' len_vs ?zW0k1 ?zW0k2 ?zW0k3 ?_; (case zW0k1 => k_asm); (case zW0k2 => k_mem); (case zW0k3 => omega))))
  (k_with "subscriptTail" => (k_here; (with_reducible show wpAny _ _ (subscriptTail _ _ (Value.ref _) (Value.int _ _)) _ _ _); k_dflt (refine' pn_item2 ?zW1k1 ?zW1k2 ?zW1k3 ?zW1k4 ?zW1k5 ?zW1k6 ?_ ?zW1k7; (case zW1k1 => k_asm); (case zW1k2 => k_mem); (case zW1k3 => assumption); (case zW1k4 => first | omega | exact fm_lo (by omega)); (case zW1k5 => first | omega | exact fm_hi (by omega)); (case zW1k6 => assumption); (case zW1k7 => with_unfolding_all rfl); k_whole); intro _ _ _ _ _ _ _))
  (k_with "call ref" => (k_here; (with_reducible show wpAny _ _ (call (Value.ref 28) [Value.ref _]) _ _ _); k_dflt (refine' arg_ok ?zW2k1 ?zW2k2 ?zW2k3 ?zW2k4 ?zW2k5 ?zW2k6 ?zW2k7 ?zW2k8 ?zW2k9 ?zW2k10 ?zW2k11 ?zW2kK ?zW2kd ?zW2ku ?_; (case zW2k1 => k_asm); (case zW2k2 => k_asm); (case zW2k3 => k_asm); (case zW2k4 => assumption); (case zW2k5 => k_asm); (case zW2k6 => omega); (case zW2k7 => assumption); (case zW2k8 => assumption); (case zW2k9 => omega); (case zW2k10 => omega); (case zW2k11 => k_asm); (case zW2kK => first | exact rfl | assumption); (case zW2kd => ktr_room); (case zW2ku => ktr_units); k_whole); intro _ _ _ _ _ _ _ _ _; (try dsimp only); (try k_sweep)))
  (k_with "call ref" => (k_here; (with_reducible show wpAny _ _ (call (Value.ref _) [Value.ref _, Value.ref _, Value.ref _]) _ _ _); k_dflt (refine' call_meth ?zW3q1 ?zW3q2 ?_; (case zW3q1 => k_asm); (case zW3q2 => k_mem); refine' angle_code ?zW3k1 ?zW3k2 ?zW3k3 ?zW3k4 ?zW3k5 ?zW3k6 ?zW3k7 ?zW3k8 ?zW3k9 ?zW3k10 ?zW3k11 ?zW3kK ?zW3kd ?zW3ku ?zW3b1 ?zW3b2 ?zW3b3 ?zW3b4 ?_; (case zW3k1 => k_asm); (case zW3k2 => k_asm); (case zW3k3 => k_asm); (case zW3k4 => k_asm); (case zW3k5 => k_mem); (case zW3k6 => k_mem); (case zW3k7 => k_mem); (case zW3k8 => k_mem); (case zW3k9 => k_mem); (case zW3k10 => k_mem); (case zW3k11 => k_asm); (case zW3kK => first | exact rfl | assumption); (case zW3kd => ktr_room); (case zW3ku => ktr_units); (case zW3b1 => exact near_x (by assumption) (by assumption) (by omega)); (case zW3b2 => exact near_y (by assumption) (by assumption) (by omega)); (case zW3b3 => exact near_y (by assumption) (by assumption) (by omega)); (case zW3b4 => exact near_x (by assumption) (by assumption) (by omega)); k_whole); intro _ _ _ _; (try dsimp only)))
  revert X; k_fill; intro X
  refine wpAny_call ?_
  k_dflt cell_enter
  k_steps
  obtain ⟨tb, kN9⟩ : ∃ tb, News h₀ L _ ((l, listOf vs.toArray n) :: (23, tabObj tb) :: rest) := ⟨_, by assumption⟩
  exact cb_retO (Q := Q) (fun h' tk' F N => hret _ tb h' tk' (by assumption) (by assumption) F N) rfl (by k_asm) (cb_drop kN9 (fun p hp => .tail _ hp))
end Mine
end
section
open PySem PySem.W PyProof.Rows
set_option Elab.async false
set_option maxRecDepth 100000
namespace Mine
theorem top_around (cn : Str) (cs : Scope) (L la : Addr) (ccd : Value) : callerA.deeper (envOfC cn cs L la ccd) = ktrTop 302 7 (some []) cn cs L la ccd (cellsFrom (L + 1) cs.names []) [] := rfl
theorem simple_top {w : World} {p : Program} {loose : List Str} {mean : ExcName → Option Value} {mg mb : Str → Option Value}
  {cn : Str} {cs : Scope} {la : Addr} {ccd : Value} {base h₀ : Heap} {L : Addr} {m : Str → Option Value} {s : Shared} {Q E : Value → Shared → Prop}
  {rest : List (Addr × Obj)} {l : Addr} {n : Nat} {vs : List Value} {ps : List (Int × Int)}
  (B : Below callerA base [] h₀) (F : Fr h₀ L s.heap m) (X : (Mine.hd.heap_1 w.params).In h₀)
  (N : News h₀ L s.heap ((l, listOf vs.toArray n) :: rest)) (hp : Pts rest vs ps) (hg : ∀ p ∈ ps, Grid p) (h7 : vs.length ≤ 7)
  (T : Top p loose mean mg mb h₀) (hk : cs.kind = .function)
  (hret : ∀ (b : Bool) h' tk', (b = true → SimpleOk ps) → Fr h₀ L h' m → News h₀ L h' ((l, listOf vs.toArray n) :: rest) → Q (.bool b) { s with heap := h', toks := tk' }) :
  wpAny (model PySem.Challenge.rw_ja0044_01.row.prog w) (callerA.deeper (envOfC cn cs L la ccd)) (call (.ref 308) [.ref l]) Q E s := by
  rw [top_around]
  exact simple_ok B F X N hp hg h7 T hk (by decide) (by decide) hret
theorem around_top {w : World} {p : Program} {loose : List Str} {mean : ExcName → Option Value} {mg mb : Str → Option Value}
  {cn : Str} {cs : Scope} {la : Addr} {ccd : Value} {base h₀ : Heap} {L : Addr} {m : Str → Option Value} {s : Shared} {Q E : Value → Shared → Prop}
  {rest : List (Addr × Obj)} {l : Addr} {n : Nat} {vs : List Value} {ps : List (Int × Int)}
  (B : Below callerA base [] h₀) (F : Fr h₀ L s.heap m) (X : (Mine.hd.heap_1 w.params).In h₀)
  (N : News h₀ L s.heap ((l, listOf vs.toArray n) :: rest)) (hp : Pts rest vs ps) (hg : ∀ p ∈ ps, Grid p) (h3 : 3 ≤ vs.length) (h7 : vs.length ≤ 7)
  (T : Top p loose mean mg mb h₀) (hk : cs.kind = .function)
  (hret : ∀ D ws qs c h' tk', Fr h₀ L h' m → News h₀ L h' ((D, listOf (List.toArray ws) c) :: (l, listOf vs.toArray n) :: rest) → (@LT.lt Nat _ l D) → (∀ q ∈ rest, @LT.lt Nat _ q.1 D) → Pts rest ws qs → (∀ p ∈ qs, Grid p) → ws.length = vs.length → qs.Perm ps → Q (.ref D) { s with heap := h', toks := tk' }) :
  wpAny (model PySem.Challenge.rw_ja0044_01.row.prog w) (callerA.deeper (envOfC cn cs L la ccd)) (call (.ref 303) [.ref l]) Q E s := by
  rw [top_around]
  exact around_ok B F X N hp hg h3 h7 T hk (by decide) (by decide) hret
end Mine
end
section
open PySem PySem.W PyProof.Rows PySem.Calls PySem.Spec
set_option Elab.async false
set_option maxRecDepth 100000
namespace Mine
open PySem.SeqAt
section
variable {prog : Program} {w : World} {M : Model} {A : Around} {E : Value → Shared → Prop} {s : Shared} {g : Heap} {L : Addr} {m : Str → Option Value} {news news₂ : List (Addr × Obj)} {Q : Value → Shared → Prop} {q l : Addr} {its : Array Value} {n k : Nat} {x y : Int} {t u : Tok} {ps : List (Int × Int)}
def WayP (g : Heap) (L : Addr) (m : Str → Option Value) (news : List (Addr × Obj)) (s : Shared) (v : Value) (s' : Shared) : Prop := ∃ wy t h' tk', v = .int wy t ∧ 0 ≤ wy ∧ s' = { s with heap := h', toks := tk' } ∧ Fr g L h' m ∧ News g L h' news
theorem way_step {t : Sem Value} (_F : Fr g L s.heap m) (_N : News g L s.heap news) (h1 : wpAny M A t (WayP g L m news s) E s) (h2 : ∀ wy t h' tk', 0 ≤ wy → Fr g L h' m → News g L h' news → Q (.int wy t) { s with heap := h', toks := tk' }) : wpAny M A t Q E s :=
  wpAny_mono h1 (fun v s' h => by
    obtain ⟨wy, t, h', tk', rfl, h0, rfl, F, N⟩ := h
    exact h2 wy t h' tk' h0 F N) fun _ _ e => e
theorem reads_pts {h : Heap} {vs : List Value} (N : News g L h news) (hp : Pts news vs ps) : ReadsAll h vs (ps.map fun p => ptD p.1 p.2) [] := by
  induction hp with
  | nil => exact .nil
  | cons hv _ ih =>
    obtain ⟨a, t, u, n, rfl, hm⟩ := hv
    exact .cons (reads_pt (N _ hm).1) ih
theorem lay_pts (ps : List (Int × Int)) : PyData.canLayAll0 (ps.map fun p => ptD p.1 p.2) = true := by
  induction ps with
  | nil => rfl
  | cons p r ih => simp only [List.map_cons, PyData.canLayAll0, lay_pt, Bool.true_and, ih]
theorem any_pts (ps : List (Int × Int)) (x y : Int) : ((ps.map fun p => ptD p.1 p.2).any fun z => PyData.eqv z (ptD x y)) = decide ((x, y) ∈ ps) := by
  induction ps with
  | nil => simp
  | cons p r ih =>
    obtain ⟨px, py⟩ := p
    rw [List.map_cons, List.any_cons, ih, eqv_pt]
    unfold eqp
    rw [Bool.eq_iff_iff]
    simp only [Bool.or_eq_true, Bool.and_eq_true, decide_eq_true_eq, List.mem_cons, Prod.mk.injEq]
    constructor
    · rintro (⟨a, b⟩ | h)
      · exact .inl ⟨a.symm, b.symm⟩
      · exact .inr h
    · rintro (⟨a, b⟩ | h)
      · exact .inl ⟨a.symm, b.symm⟩
      · exact .inr h
theorem notIn_ring (N : News g L s.heap news) (hm : (l, listOf its n) ∈ news) (hp : Pts news₂ its.toList ps) (hs : ∀ e ∈ news₂, e ∈ news) (hq : (q, tup [.int x t, .int y u] k) ∈ news) (hu : A.units + 8 < cLine)
    (h : Q (.bool (!decide ((x, y) ∈ ps))) s) : wpAny (model prog w) A (compareOp .NotIn (.ref q) (.ref l)) Q E s := by
  have hR := reads_pts N (hp.mono hs)
  refine notIn_list_reads (xs := ps.map fun p => ptD p.1 p.2) (d := ptD x y) (reads_list_at (N _ hm).1 rfl rfl hR) (reads_pt (N _ hq).1) (lay_pts ps) rfl ?_ ?_
  · have := depth_pt x y; omega
  · rw [any_pts]; exact h
end
structure StR where
  bs : Array Value
  nb : Nat
  add : List (Addr × Obj)
  ps : List (Int × Int)
abbrev mapB (M0 : Str → Option Value) (p q : Option Value) : Str → Option Value := fun y => if y = Str.ofString "place" then p else if y = Str.ofString "number" then q else M0 y
theorem mapB_init {M0 : Str → Option Value} : ∃ p q, M0 = mapB M0 p q := ⟨M0 (Str.ofString "place"), M0 (Str.ofString "number"), funext fun y => by
  unfold mapB
  by_cases h1 : y = Str.ofString "place"
  · rw [if_pos h1, h1]
  · rw [if_neg h1]
    by_cases h2 : y = Str.ofString "number"
    · rw [if_pos h2, h2]
    · rw [if_neg h2]⟩
theorem mapB_next {M0 : Str → Option Value} {p q p' q' : Option Value} : ∃ r t, (fun y => if y = Str.ofString "place" then p' else if y = Str.ofString "number" then q' else mapB M0 p q y) = mapB M0 r t := ⟨p', q', funext fun y => by
  unfold mapB
  by_cases h1 : y = Str.ofString "place"
  · rw [if_pos h1, if_pos h1]
  · rw [if_neg h1, if_neg h1, if_neg h1]
    by_cases h2 : y = Str.ofString "number"
    · rw [if_pos h2, if_pos h2]
    · rw [if_neg h2, if_neg h2, if_neg h2]⟩
theorem fm5 (a : Int) : 0 ≤ a.fmod 5 ∧ a.fmod 5 ≤ 4 := by
  have h1 := Int.fmod_nonneg_of_pos a (b := 5) (by decide)
  have h2 := Int.fmod_lt_of_pos a (b := 5) (by decide)
  omega
theorem ints_at : ∀ {vs : List Value} {ns : List Int}, IntsAre vs ns → ∀ {v : Value}, v ∈ vs → ∃ k t, v = .int k t
  | _, _, .nil, _, h => nomatch h
  | _, _, .cons n t r, v, h => by
    rcases List.mem_cons.mp h with rfl | h
    · exact ⟨_, _, rfl⟩
    · exact ints_at r h
theorem pick_int {vs : List Value} {ns : List Int} (h : IntsAre vs ns) {lo hi : Option Int} {v : Value} (hv : v ∈ PySem.W.kms_pick vs lo hi) : ∃ k t, v = .int k t :=
  ints_at h (List.mem_of_mem_drop (List.mem_of_mem_take hv))
theorem pick_len7 (vs : List Value) : (PySem.W.kms_pick vs (some 1) (some 8)).length ≤ 7 := by
  unfold PySem.W.kms_pick PySem.W.kms_lo PySem.W.kms_hi
  simp only [List.length_take, List.length_drop]
  have e1 : ((1 : Int) < 0) = False := by simp
  have e2 : ((8 : Int) < 0) = False := by simp
  simp only [e1, e2, if_false]
  have e3 : (1 : Int).toNat = 1 := rfl
  have e4 : (8 : Int).toNat = 8 := rfl
  rw [e3, e4]
  omega
def RingAt (g : Heap) (L : Addr) (M1 : Str → Option Value) (oA : Obj) (P : List (Int × Int) → Prop) (h : Heap) : Prop :=
  ∃ R vs n qs add oR, Fr g L h M1 ∧ News g L h ((R, listOf (List.toArray vs) n) :: (L + 1 + 1, oA) :: (L + 1, oR) :: (23, tabObj #[]) :: add) ∧ oR.data = .cell (some (.ref R)) ∧ Pts add vs qs ∧ (∀ p ∈ qs, Grid p) ∧ qs.Nodup ∧ vs.length ≤ 7 ∧ @LT.lt Nat _ (L + 1 + 1) R ∧ (∀ p ∈ add, @LT.lt Nat _ (L + 1 + 1) p.1) ∧ P qs
def RingP (g : Heap) (L : Addr) (M1 : Str → Option Value) (oA : Obj) (P : List (Int × Int) → Prop) (s : Shared) (f : Flow) (s' : Shared) : Prop :=
  match f with
  | .next => ∃ h' tk', s' = { s with heap := h', toks := tk' } ∧ RingAt g L M1 oA P h'
  | _ => False
theorem ring_if {M : Model} {A : Around} {E : Value → Shared → Prop} {s : Shared} {g : Heap} {L : Addr} {M1 : Str → Option Value} {oA : Obj} {P : List (Int × Int) → Prop} {t : Sem Flow} {Q : Flow → Shared → Prop} (h1 : wpAny M A t (RingP g L M1 oA P s) E s)
    (h2 : ∀ h' tk', RingAt g L M1 oA P h' → Q .next { s with heap := h', toks := tk' }) : wpAny M A t Q E s :=
  wpAny_mono h1 (fun f s' h => by
    cases f with
    | next => obtain ⟨h', tk', rfl, hr⟩ := h; exact h2 h' tk' hr
    | _ => exact h.elim) fun _ _ e => e
theorem gt_ne2 {l : List (Addr × Obj)} {c d : Addr} (h : ∀ q ∈ l, @LT.lt Nat _ d q.1) (hc : @LE.le Nat _ c d) : ∀ p ∈ l, p.1 ≠ c := fun p hp e => by
  have := h p hp
  rw [e] at this
  exact Nat.lt_irrefl _ (Nat.lt_of_lt_of_le this hc)
theorem PtAt.strip {e : Addr × Obj} {news : List (Addr × Obj)} {v : Value} {p : Int × Int} (h : PtAt (e :: news) v p) (he : ∀ x n, e.2.data ≠ .seq x n) : PtAt news v p := by
  obtain ⟨a, t, u, n, rfl, hm⟩ := h
  rcases List.mem_cons.mp hm with rfl | hm
  · exact absurd rfl (he _ _)
  · exact ⟨a, t, u, n, rfl, hm⟩
theorem Pts.strip {e : Addr × Obj} {news : List (Addr × Obj)} {vs : List Value} {ps : List (Int × Int)} (h : Pts (e :: news) vs ps) (he : ∀ x n, e.2.data ≠ .seq x n) : Pts news vs ps := by
  induction h with
  | nil => exact .nil
  | cons hv _ ih => exact .cons (hv.strip he) ih
def rot (f : Nat) (ps : List (Int × Int)) : List (Int × Int) := ps.drop f ++ ps.take f
def IsTurn (ps qs : List (Int × Int)) : Prop := ∃ f, f < ps.length ∧ (qs = rot f ps ∨ qs = (rot f ps).reverse)
theorem Pts.dropP {rest : List (Addr × Obj)} : ∀ (k : Nat) {vs : List Value} {ps : List (Int × Int)}, Pts rest vs ps → Pts rest (vs.drop k) (ps.drop k)
  | 0, _, _, h => h
  | _ + 1, _, _, .nil => .nil
  | k + 1, _, _, .cons _ h => h.dropP k
theorem Pts.takeP {rest : List (Addr × Obj)} : ∀ (k : Nat) {vs : List Value} {ps : List (Int × Int)}, Pts rest vs ps → Pts rest (vs.take k) (ps.take k)
  | 0, _, _, _ => .nil
  | _ + 1, _, _, .nil => .nil
  | k + 1, _, _, .cons h0 h => .cons h0 (h.takeP k)
theorem Pts.rev {rest : List (Addr × Obj)} {vs : List Value} {ps : List (Int × Int)} (h : Pts rest vs ps) : Pts rest vs.reverse ps.reverse := by
  induction h with
  | nil => exact .nil
  | cons h0 _ ih => rw [List.reverse_cons, List.reverse_cons]; exact ih.append (.cons h0 .nil)
theorem rot_perm (f : Nat) (ps : List (Int × Int)) : (rot f ps).Perm ps := by
  unfold rot
  exact List.perm_append_comm.trans (List.Perm.of_eq (List.take_append_drop f ps))
theorem pick_rot {vs : List Value} {k : Int} (h0 : 0 ≤ k) (h1 : k < vs.length) : PySem.W.kms_pick vs (some k) none ++ PySem.W.kms_pick vs none (some k) = vs.drop k.toNat ++ vs.take k.toNat := by
  unfold PySem.W.kms_pick PySem.W.kms_lo PySem.W.kms_hi
  have e1 : (k < 0) = False := by simp; omega
  simp only [e1, if_false]
  have e2 : min k.toNat vs.length = k.toNat := by omega
  rw [e2, List.drop_zero, Nat.sub_zero, List.take_of_length_le (by simp)]
end Mine
end
section
open PySem PySem.W PyProof.Rows
set_option Elab.async false
set_option maxRecDepth 100000
namespace Mine
open PySem.SeqAt
section
variable {prog : Program} {w : World} {A : Around} {E : Value → Shared → Prop} {s : Shared} {h₀ : Heap} {L : Addr} {m : Str → Option Value} {news news₂ : List (Addr × Obj)} {Q : Value → Shared → Prop} {l : Addr} {vs : List Value} {n : Nat} {ps : List (Int × Int)}
theorem ring_item2 {value slice : PySem.Expr} {k : Int} {u : Tok} (N : News h₀ L s.heap news) (hm : (l, listOf vs.toArray n) ∈ news) (hp : Pts news₂ vs ps) (h0 : -(vs.length : Int) ≤ k) (h1 : k < vs.length) (h7 : vs.length ≤ 7)
    (h : ∀ a t u' n', (a, tup [.int (ptAt ps (wrap vs.length k)).1 t, .int (ptAt ps (wrap vs.length k)).2 u'] n') ∈ news₂ → Q (.ref a) s)
    (hs : subscripted slice false (.ref l) (.int k u) = operate [.ref l, .int k u] (getItem (.ref l) (.int k u)) := by with_unfolding_all rfl) :
    wpAny (model prog w) A (subscriptTail value slice (.ref l) (.int k u)) Q E s := by
  have hl : s.heap.IsList l vs.toArray := ⟨_, (N _ hm).1, rfl, n, rfl⟩
  have hn0 : 0 < vs.length := by omega
  have hw : wrap vs.length k < ps.length := by have := wrap_lt (k := k) hn0; have := hp.length; omega
  obtain ⟨v, hv, a, t, u', n', rfl, ha⟩ := hp.get hw
  have e : ptAt ps (wrap vs.length k : Nat) = ps[wrap vs.length k] := by unfold ptAt; rw [Int.toNat_natCast, List.getD_eq_getElem?_getD, List.getElem?_eq_getElem hw]; rfl
  have hq := h a t u' n' (by rw [e]; exact ha)
  by_cases hk : 0 ≤ k
  · have e : wrap vs.length k = k.toNat := by
      unfold wrap
      rw [Int.emod_eq_of_lt hk h1]
    rw [e] at hv
    exact tail_any hl.typeIs slot_list_getitem.lookup (wpAny_getItem_list hl hk (by omega) (x := .ref a) (by simpa using hv) hq) hs
  · have e : wrap vs.length k = (k + vs.length).toNat := by
      unfold wrap
      rw [← Int.add_emod_right, Int.emod_eq_of_lt (by omega) (by omega)]
    rw [e] at hv
    have hz : vs.toArray.size = vs.length := List.size_toArray ..
    refine tail_any hl.typeIs slot_list_getitem.lookup (wpAny_getItem_list_neg (x := .ref a) hl (by omega) (by rw [hz]; omega) (by omega) ?_ hq) hs
    rw [hz]
    simpa using hv
theorem sum_lst {ys : List Value} {zs : List Int} (hh : A.handled = none) (F : Fr h₀ L s.heap m) (N : News h₀ L s.heap news) (hm : (l, LCg.lst ys) ∈ news) (hi : IntsAre ys zs)
    (h : ∀ h' tk t', Fr h₀ L h' m → News h₀ L h' news → Q (.int zs.sum t') { s with heap := h', toks := tk }) :
    wpAny (model prog w) A (call (.builtin "sum") [.ref l]) Q E s := sumK hh F N ⟨_, (N _ hm).1, rfl, _, rfl⟩ hi h
end
/-- the law's own reckoning of a side -/
def sz (ps : List (Int × Int)) (n : Nat) (i : Nat) : Int := (ptAt ps (wrap n ((i : Int) - 1))).1 * (ptAt ps (wrap n i)).2 - (ptAt ps (wrap n ((i : Int) - 1))).2 * (ptAt ps (wrap n i)).1
def SizeInv (base : List (Addr × Obj)) (ps : List (Int × Int)) (n : Nat) (i : Nat) (ys : List Value) (nw : List (Addr × Obj)) : Prop := nw = base ∧ IntsAre ys ((List.range i).map (sz ps n))
theorem size_elem {h₀ h' : Heap} {L : Addr} {m : Str → Option Value} {I C D : Addr} {oI oC : Obj} {ys : List Value} {base : List (Addr × Obj)} {ps : List (Int × Int)} {n i : Nat} {s₁ : Shared} {tk' : Nat} {x : Int} {t : Tok}
    (F : Fr h₀ L h' m) (N : News h₀ L h' ((I, oI) :: (C, oC) :: (D, LCg.lst ys) :: base)) (off : LCg.Off3 I C D base) (hi : IntsAre ys ((List.range i).map (sz ps n))) (hx : x = sz ps n i) :
    ElemEnd h₀ L m I oI C oC D ys (SizeInv base ps n (i + 1)) s₁ (.int x t) { s₁ with heap := h', toks := tk' } := by
  refine ⟨h', tk', base, rfl, F, N, off, rfl, ?_⟩
  rw [List.range_succ, List.map_append]
  subst hx
  exact hi.append (.cons _ _ .nil)
theorem make_top {w : World} {p : Program} {loose : List Str} {mean : ExcName → Option Value} {mg mb : Str → Option Value}
  {cn : Str} {cs : Scope} {la : Addr} {ccd : Value} {base h₀ : Heap} {L : Addr} {m : Str → Option Value} {s : Shared} {Q E : Value → Shared → Prop}
  {news : List (Addr × Obj)} {x y : Int} {t u : Tok}
  (B : Below callerA base [] h₀) (F : Fr h₀ L s.heap m) (X : (Mine.hd.heap_1 w.params).In h₀)
  (N : News h₀ L s.heap news)
  (T : Top p loose mean mg mb h₀) (hk : cs.kind = .function)
  (hret : ∀ D dx h' tk', Fr h₀ L h' m → News h₀ L h' ((D, pnt x t y u 0 dx) :: (dx, dictOf [] 0) :: news) → (∀ p ∈ news, p.1 < dx) → dx < D → Q (.ref D) { s with heap := h', toks := tk' }) :
  wpAny (model PySem.Challenge.rw_ja0044_01.row.prog w) (callerA.deeper (envOfC cn cs L la ccd)) (call (.ref 146) [.int x t, .int y u]) Q E s := by
  rw [top_around]
  exact make_ok B F X N T hk (by decide) (by decide) hret
theorem contour_top {w : World} {p : Program} {loose : List Str} {mean : ExcName → Option Value} {mg mb : Str → Option Value}
  {cn : Str} {cs : Scope} {la : Addr} {ccd : Value} {base h₀ : Heap} {L : Addr} {m : Str → Option Value} {s : Shared} {Q E : Value → Shared → Prop}
  {rest : List (Addr × Obj)} {l ct cd q ctx : Addr} {n kk : Nat} {hs : Int} {tk : Tok} {vs : List Value} {ps : List (Int × Int)}
  (B : Below callerA base [] h₀) (F : Fr h₀ L s.heap m) (X : (Mine.hd.heap_1 w.params).In h₀) (C : CodeHd base 27 23)
  (N : News h₀ L s.heap ((l, listOf vs.toArray n) :: (23, tabObj #[]) :: rest)) (hl23 : @Ne Nat l 23) (hr23 : ∀ q ∈ rest, @LT.lt Nat _ 23 q.1)
  (mct : (ct, instObj 217 cd) ∈ rest) (mcd : (cd, dictOf [⟨hs, .str (Str.ofString "vertices") tk, .ref l⟩] kk) ∈ rest) (mq : (q, methodObj (.ref 263) (.ref ctx)) ∈ rest)
  (hp : Pns rest vs ps) {xa xb : Int} (hnear : Near xa xb ps) (hlen : vs.length = ps.length) (h3 : 3 ≤ vs.length) (h7 : vs.length ≤ 7)
  (T : Top p loose mean mg mb h₀) (hk : cs.kind = .function)
  (hret : ∀ (i : Nat) (tb : Array Value) h' tk', i < vs.length → (∀ j < vs.length, lexlt (ptAt ps j).1 (ptAt ps j).2 (ptAt ps i).1 (ptAt ps i).2 = false) → Fr h₀ L h' m → News h₀ L h' ((23, tabObj tb) :: rest) → Q (.ref (orien (told ps vs.length i))) { s with heap := h', toks := tk' }) :
  wpAny (model PySem.Challenge.rw_ja0044_01.row.prog w) (callerA.deeper (envOfC cn cs L la ccd)) (call (.ref 35) [.ref ct, .ref q]) Q E s := by
  rw [top_around]
  exact contour_ok B F X C N hl23 hr23 mct mcd mq hp hnear hlen h3 h7 T hk (by decide) (by decide) hret
/-- the ring moved -/
def move (a : Int) (p : Int × Int) : Int × Int := (p.1 + a, p.2 - a)
def MoveInv (hi : Addr) (base : List (Addr × Obj)) (ps : List (Int × Int)) (a : Int) (i : Nat) (ys : List Value) (nw : List (Addr × Obj)) : Prop :=
  ∃ add, nw = add ++ base ∧ (∀ p ∈ add, @LT.lt Nat _ hi p.1) ∧ ys.length = i ∧ ∀ k : Nat, k < i → ∃ v, ys[k]? = some v ∧ PnAt add v (move a (ptAt ps k))
theorem PnAt.mono {news news' : List (Addr × Obj)} {v : Value} {p : Int × Int} (h : PnAt news v p) (hs : ∀ e ∈ news, e ∈ news') : PnAt news' v p := by
  obtain ⟨a, d, t, u, k, rfl, h1, h2⟩ := h
  exact ⟨a, d, t, u, k, rfl, hs _ h1, hs _ h2⟩
theorem move_elem {h₀ h' : Heap} {L : Addr} {m : Str → Option Value} {I C D Dp dx hi : Addr} {oI oC : Obj} {ys : List Value} {add base nw : List (Addr × Obj)} {ps : List (Int × Int)} {i k : Nat} {s₁ : Shared} {tk' : Nat} {x y a : Int} {t u : Tok}
    (F : Fr h₀ L h' m) (N : News h₀ L h' nw) (hN : ∀ p ∈ (Dp, pnt x t y u k dx) :: (dx, dictOf [] 0) :: (I, oI) :: (C, oC) :: (D, LCg.lst ys) :: (add ++ base), p ∈ nw) (off : LCg.Off3 I C D (add ++ base)) (lI : @LT.lt Nat _ I dx) (lC : @LT.lt Nat _ C dx) (lD : @LT.lt Nat _ D dx) (lH : @LT.lt Nat _ hi dx) (l8 : @LT.lt Nat _ dx Dp)
    (hadd : ∀ p ∈ add, @LT.lt Nat _ hi p.1) (hl : ys.length = i) (hs : ∀ k : Nat, k < i → ∃ v, ys[k]? = some v ∧ PnAt add v (move a (ptAt ps k))) (hx : x = (ptAt ps i).1 + a) (hy : y = (ptAt ps i).2 - a) :
    ElemEnd h₀ L m I oI C oC D ys (MoveInv hi base ps a (i + 1)) s₁ (.ref Dp) { s₁ with heap := h', toks := tk' } := by
  refine ⟨h', tk', ((Dp, pnt x t y u k dx) :: (dx, dictOf [] 0) :: add) ++ base, rfl, F, fun p hp => N p (hN p ?_), ?_, _, rfl, ?_, ?_, ?_⟩
  · simp only [List.mem_cons, List.cons_append] at hp ⊢
    rcases hp with hp | hp | hp | hp | hp | hp <;> simp [hp]
  · have lI2 := Nat.lt_trans lI l8
    have lC2 := Nat.lt_trans lC l8
    have lD2 := Nat.lt_trans lD l8
    exact ⟨⟨Nat.ne_of_gt lI2, Nat.ne_of_gt lC2, Nat.ne_of_gt lD2⟩, ⟨Nat.ne_of_gt lI, Nat.ne_of_gt lC, Nat.ne_of_gt lD⟩, off⟩
  · intro p hp
    simp only [List.mem_cons] at hp
    rcases hp with rfl | rfl | hp
    · exact Nat.lt_trans lH l8
    · exact lH
    · exact hadd p hp
  · rw [List.length_append, hl]; rfl
  · intro j hj
    by_cases e : j < i
    · obtain ⟨v, hv, hq⟩ := hs j e
      exact ⟨v, by rw [List.getElem?_append_left (by omega)]; exact hv, hq.mono fun e he => .tail _ (.tail _ he)⟩
    · obtain rfl : j = i := by omega
      refine ⟨.ref Dp, by rw [List.getElem?_append_right (by omega), hl, Nat.sub_self]; rfl, Dp, dx, t, u, k, rfl, ?_, .tail _ (.head _)⟩
      unfold move
      rw [← hx, ← hy]
      exact .head _
theorem move_len {ps : List (Int × Int)} {a : Int} : (ps.map (move a)).length = ps.length := List.length_map ..
theorem move_at {ps : List (Int × Int)} {a : Int} {k : Nat} (h : k < ps.length) : ptAt (ps.map (move a)) k = move a (ptAt ps k) := by
  unfold ptAt
  rw [Int.toNat_natCast, List.getD_eq_getElem?_getD, List.getD_eq_getElem?_getD, List.getElem?_map, List.getElem?_eq_getElem h]
  rfl
theorem move_pns {news : List (Addr × Obj)} {ys : List Value} {ps : List (Int × Int)} {a : Int} {add : List (Addr × Obj)} (hl : ys.length = ps.length) (hs : ∀ k : Nat, k < ps.length → ∃ v, ys[k]? = some v ∧ PnAt add v (move a (ptAt ps k))) (ha : ∀ e ∈ add, e ∈ news) : Pns news ys (ps.map (move a)) := by
  refine ⟨by rw [move_len, hl], fun i hi => ?_⟩
  rw [move_len] at hi
  obtain ⟨v, hv, hq⟩ := hs i hi
  exact ⟨v, hv, by rw [move_at hi]; exact hq.mono ha⟩
theorem move_near {ps : List (Int × Int)} {a : Int} (hg : ∀ p ∈ ps, Grid p) : Near a (-a) (ps.map (move a)) := by
  intro p hp
  obtain ⟨q, hq, rfl⟩ := List.mem_map.mp hp
  obtain ⟨⟨h1, h2⟩, h3, h4⟩ := hg q hq
  unfold move
  exact ⟨⟨by dsimp only; omega, by dsimp only; omega⟩, by dsimp only; omega, by dsimp only; omega⟩
theorem at_grid {ps : List (Int × Int)} {n : Nat} {k : Int} (hg : ∀ p ∈ ps, Grid p) (hn : n = ps.length) (h0 : 0 < n) : Grid (ptAt ps (wrap n k)) := by
  subst hn
  exact hg _ (ptAt_mem (by omega) (by have := wrap_lt (k := k) h0; omega))
end Mine
end
section
set_option Elab.async false
namespace Mine
/-! sums and parities -/
def xs : Nat → (Int → Bool) → Bool
  | 0, _ => false
  | k + 1, f => (xs k f ^^ f k)
theorem xs_congr {f g : Int → Bool} : ∀ {k : Nat}, (∀ i : Nat, i < k → f i = g i) → xs k f = xs k g
  | 0, _ => rfl
  | k + 1, h => by rw [xs, xs, xs_congr (k := k) fun i hi => h i (by omega), h k (by omega)]
theorem xs_xor (f g : Int → Bool) : ∀ k : Nat, xs k (fun i => (f i ^^ g i)) = (xs k f ^^ xs k g)
  | 0 => rfl
  | k + 1 => by
    rw [xs, xs, xs, xs_xor f g k]
    cases xs k f <;> cases xs k g <;> cases f k <;> cases g k <;> rfl
theorem xs_tele (g : Int → Bool) : ∀ k : Nat, xs k (fun i => (g i ^^ g (i + 1))) = (g 0 ^^ g k)
  | 0 => by show false = (g 0 ^^ g 0); cases g 0 <;> rfl
  | k + 1 => by
    rw [xs, xs_tele g k, show ((k + 1 : Nat) : Int) = (k : Int) + 1 from rfl]
    cases g 0 <;> cases g k <;> cases g ((k : Int) + 1) <;> rfl
theorem xs_shift (f : Int → Bool) : ∀ k : Nat, xs k (fun i => f (i + 1)) = (xs k f ^^ (f 0 ^^ f k))
  | 0 => by show false = (false ^^ (f 0 ^^ f 0)); cases f 0 <;> rfl
  | k + 1 => by
    rw [xs, xs, xs_shift f k, show ((k + 1 : Nat) : Int) = (k : Int) + 1 from rfl]
    cases xs k f <;> cases f 0 <;> cases f k <;> cases f ((k : Int) + 1) <;> rfl
theorem xs_per {n : Nat} {f : Int → Bool} (hf : ∀ i, f (i + n) = f i) : ∀ a : Nat, xs n (fun i => f (i + a)) = xs n f
  | 0 => xs_congr fun i _ => by rw [show (i : Int) + ((0 : Nat) : Int) = i by omega]
  | a + 1 => by
    have h := xs_shift (fun i => f (i + a)) n
    have h0 : f (0 + (a : Int)) = f ((n : Int) + a) := by rw [show (n : Int) + a = 0 + a + n by omega, hf]
    (try dsimp only at h)
    rw [h0, Bool.xor_self, Bool.xor_false, xs_per hf a] at h
    rw [← h]
    exact xs_congr fun i _ => by rw [show (i : Int) + ((a + 1 : Nat) : Int) = (i : Int) + 1 + a by omega]
theorem xs_turn {n : Nat} {f : Int → Bool} (hf : ∀ i, f (i + n) = f i) (a : Int) : xs n (fun i => f (i + a)) = xs n f := by
  obtain ⟨b, rfl | rfl⟩ : ∃ b : Nat, a = b ∨ a = -(b : Int) := ⟨a.natAbs, by omega⟩
  · exact xs_per hf b
  · have h := xs_per (n := n) (f := fun i => f (i + -(b : Int))) (fun i => by (try dsimp only); rw [← hf (i + -(b : Int))]; congr 1; omega) b
    rw [← h]
    exact xs_congr fun i _ => by (try dsimp only); congr 1; omega
theorem xs_two {f : Int → Bool} : ∀ {n : Nat}, 2 ≤ n → (∀ i : Nat, 2 ≤ i → i < n → f i = false) → xs n f = (f 0 ^^ f 1)
  | 0, h, _ => absurd h (by decide)
  | 1, h, _ => absurd h (by decide)
  | 2, _, _ => by show ((false ^^ f 0) ^^ f 1) = _; cases f 0 <;> rfl
  | n + 3, _, h => by rw [xs, xs_two (n := n + 2) (by omega) (fun i h2 hi => h i h2 (by omega)), h (n + 2) (by omega) (by omega), Bool.xor_false]
theorem xs_false {f : Int → Bool} : ∀ {n : Nat}, (∀ i : Nat, i < n → f i = false) → xs n f = false
  | 0, _ => rfl
  | n + 1, h => by rw [xs, xs_false (n := n) fun i hi => h i (by omega), h n (by omega)]; rfl
def sm : Nat → (Int → Int) → Int
  | 0, _ => 0
  | k + 1, f => sm k f + f k
theorem sm_congr {f g : Int → Int} : ∀ {k : Nat}, (∀ i : Nat, i < k → f i = g i) → sm k f = sm k g
  | 0, _ => rfl
  | k + 1, h => by rw [sm, sm, sm_congr (k := k) fun i hi => h i (by omega), h k (by omega)]
theorem sm_add (f g : Int → Int) : ∀ k : Nat, sm k (fun i => f i + g i) = sm k f + sm k g
  | 0 => rfl
  | k + 1 => by rw [sm, sm, sm, sm_add f g k]; omega
theorem sm_mul (c : Int) (f : Int → Int) : ∀ k : Nat, sm k (fun i => c * f i) = c * sm k f
  | 0 => by rw [sm, sm, Int.mul_zero]
  | k + 1 => by rw [sm, sm, sm_mul c f k, Int.mul_add]
theorem sm_zero : ∀ k : Nat, sm k (fun _ => 0) = 0
  | 0 => rfl
  | k + 1 => by rw [sm, sm_zero k]; rfl
theorem sm_swap (f : Int → Int → Int) (M : Nat) : ∀ n : Nat, sm n (fun i => sm M (fun u => f i u)) = sm M (fun u => sm n (fun i => f i u))
  | 0 => by rw [sm]; exact (sm_zero M).symm
  | n + 1 => by
    rw [sm, sm_swap f M n, ← sm_add]
    rfl
theorem sm_tele (g : Int → Int) : ∀ k : Nat, sm k (fun i => g (i + 1) - g i) = g k - g 0
  | 0 => by rw [sm]; show 0 = g 0 - g 0; omega
  | k + 1 => by rw [sm, sm_tele g k, show ((k + 1 : Nat) : Int) = (k : Int) + 1 from rfl]; omega
theorem sm_le {f : Int → Int} : ∀ {k : Nat}, (∀ i : Nat, i < k → f i ≤ 0) → sm k f ≤ 0
  | 0, _ => Int.le_refl 0
  | k + 1, h => by rw [sm]; have := sm_le (k := k) fun i hi => h i (by omega); have := h k (by omega); omega
theorem sm_lt {f : Int → Int} : ∀ {k : Nat}, (∀ i : Nat, i < k → f i ≤ 0) → ∀ j : Nat, j < k → f j < 0 → sm k f < 0
  | 0, _, j, hj, _ => absurd hj (Nat.not_lt_zero j)
  | k + 1, h, j, hj, hf => by
    rw [sm]
    by_cases e : j = k
    · subst e
      have := sm_le (k := j) fun i hi => h i (by omega)
      omega
    · have := sm_lt (k := k) (fun i hi => h i (by omega)) j (by omega) hf
      have := h k (by omega)
      omega
theorem sm_shift (f : Int → Int) : ∀ k : Nat, sm k (fun i => f (i + 1)) = sm k f - f 0 + f k
  | 0 => by show 0 = 0 - f 0 + f 0; omega
  | k + 1 => by rw [sm, sm, sm_shift f k, show ((k + 1 : Nat) : Int) = (k : Int) + 1 from rfl]; omega
theorem sm_per {n : Nat} {f : Int → Int} (hf : ∀ i, f (i + n) = f i) : ∀ a : Nat, sm n (fun i => f (i + a)) = sm n f
  | 0 => sm_congr fun i _ => by rw [show (i : Int) + ((0 : Nat) : Int) = i by omega]
  | a + 1 => by
    have h := sm_shift (fun i => f (i + a)) n
    have h0 : f (0 + (a : Int)) = f ((n : Int) + a) := by rw [show (n : Int) + a = 0 + a + n by omega, hf]
    (try dsimp only at h)
    rw [h0, sm_per hf a] at h
    have h2 : sm n (fun i => f (i + 1 + a)) = sm n f := by omega
    rw [← h2]
    exact sm_congr fun i _ => by rw [show (i : Int) + ((a + 1 : Nat) : Int) = (i : Int) + 1 + a by omega]
theorem sm_turn {n : Nat} {f : Int → Int} (hf : ∀ i, f (i + n) = f i) (a : Int) : sm n (fun i => f (i + a)) = sm n f := by
  obtain ⟨b, rfl | rfl⟩ : ∃ b : Nat, a = b ∨ a = -(b : Int) := ⟨a.natAbs, by omega⟩
  · exact sm_per hf b
  · have h := sm_per (n := n) (f := fun i => f (i + -(b : Int))) (fun i => by (try dsimp only); rw [← hf (i + -(b : Int))]; congr 1; omega) b
    rw [← h]
    exact sm_congr fun i _ => by (try dsimp only); congr 1; omega
/-! the alternating sum -/
def cp : List Int → Int → Bool
  | [], _ => false
  | a :: l, h => (decide (a < h) ^^ cp l h)
def lp : List Int → Bool
  | [] => false
  | _ :: l => !lp l
def alt (b : Bool) : Int := if b then -1 else 1
def ws (f : Int → Int) : List Int → Int
  | [] => 0
  | a :: l => f a + ws f l
def wl (l : List Int) : Int := ws (fun x => alt (cp l x) * x) l
theorem cp_perm {l l' : List Int} (h : l.Perm l') (x : Int) : cp l x = cp l' x := by
  induction h with
  | nil => rfl
  | cons a _ ih => rw [cp, cp, ih]
  | swap a b l => rw [cp, cp, cp, cp]; cases decide (a < x) <;> cases decide (b < x) <;> cases cp l x <;> rfl
  | trans _ _ i1 i2 => exact i1.trans i2
theorem lp_perm {l l' : List Int} (h : l.Perm l') : lp l = lp l' := by
  induction h with
  | nil => rfl
  | cons a _ ih => rw [lp, lp, ih]
  | swap a b l => rfl
  | trans _ _ i1 i2 => exact i1.trans i2
theorem ws_perm (f : Int → Int) {l l' : List Int} (h : l.Perm l') : ws f l = ws f l' := by
  induction h with
  | nil => rfl
  | cons a _ ih => rw [ws, ws, ih]
  | swap a b l => rw [ws, ws, ws, ws]; omega
  | trans _ _ i1 i2 => exact i1.trans i2
theorem ws_congr {f g : Int → Int} : ∀ {l : List Int}, (∀ x ∈ l, f x = g x) → ws f l = ws g l
  | [], _ => rfl
  | a :: l, h => by rw [ws, ws, h a (.head _), ws_congr fun x hx => h x (.tail _ hx)]
theorem wl_perm {l l' : List Int} (h : l.Perm l') : wl l = wl l' := by
  unfold wl
  rw [ws_perm _ h]
  exact ws_congr fun x _ => by rw [cp_perm h]
theorem cp_low {x : Int} : ∀ {l : List Int}, (∀ y ∈ l, x < y) → cp l x = false
  | [], _ => rfl
  | a :: l, h => by rw [cp, cp_low fun y hy => h y (.tail _ hy), decide_eq_false (by have := h a (.head _); omega)]; rfl
theorem wl_sorted : ∀ {l : List Int}, l.Pairwise (· < ·) → lp l = false → wl l ≤ 0 ∧ (l ≠ [] → wl l < 0)
  | [], _, _ => ⟨Int.le_refl 0, fun h => absurd rfl h⟩
  | [a], _, h => nomatch h
  | a :: b :: l, hp, he => by
    obtain ⟨ha, hp⟩ := List.pairwise_cons.mp hp
    obtain ⟨hb, hp⟩ := List.pairwise_cons.mp hp
    have ih := (wl_sorted (l := l) hp (by rw [lp, lp, Bool.not_not] at he; exact he)).1
    have hab := ha b (.head _)
    have e1 : cp (a :: b :: l) a = false := by
      rw [cp, cp_low ha]; simp
    have e2 : cp (a :: b :: l) b = true := by
      rw [cp, cp, cp_low hb]; simp [hab]
    have e3 : ws (fun x => alt (cp (a :: b :: l) x) * x) l = wl l := ws_congr fun x hx => by
      have h1 := ha x (.tail _ hx)
      have h2 := hb x hx
      rw [cp, cp, decide_eq_true h1, decide_eq_true h2]
      cases cp l x <;> rfl
    have e : wl (a :: b :: l) = a - b + wl l := by
      unfold wl
      rw [ws, ws, e3, e1, e2]
      show 1 * a + (-1 * b + _) = _
      unfold wl
      omega
    rw [e]
    exact ⟨by omega, fun _ => by omega⟩
theorem wl_neg {l : List Int} (hn : l.Nodup) (he : lp l = false) : wl l ≤ 0 ∧ (l ≠ [] → wl l < 0) := by
  have hp := List.mergeSort_perm l (fun a b => decide (a ≤ b))
  have hs : (l.mergeSort fun a b => decide (a ≤ b)).Pairwise (fun a b => decide (a ≤ b) = true) := List.pairwise_mergeSort (fun a b c h1 h2 => by simp at *; omega) (fun a b => by simp; omega) l
  have hn2 := hp.nodup_iff.mpr hn
  have h := wl_sorted (l := l.mergeSort fun a b => decide (a ≤ b)) (hs.imp₂ (fun a b h1 h2 => by have := of_decide_eq_true h1; omega) hn2) ((lp_perm hp).trans he)
  rw [wl_perm hp] at h
  refine ⟨h.1, fun h0 => h.2 fun e => h0 ?_⟩
  rw [e] at hp
  exact hp.symm.eq_nil
end Mine
end
section
set_option Elab.async false
namespace Mine
/-- a ring of sides: the corners lie over the even columns 2 q i, side i is the line A i + B i x -/
abbrev ln (A B : Int → Int) (i x : Int) : Int := A i + B i * x
def inC (q : Int → Int) (i x : Int) : Prop := (2 * q i ≤ x ∧ x ≤ 2 * q (i + 1)) ∨ (2 * q (i + 1) ≤ x ∧ x ≤ 2 * q i)
abbrev ov (q : Int → Int) (i t : Int) : Prop := (2 * q i < t ∧ t < 2 * q (i + 1)) ∨ (2 * q (i + 1) < t ∧ t < 2 * q i)
structure Rg (n : Nat) (q A B : Int → Int) : Prop where
  n3 : 3 ≤ n
  pq : ∀ i, q (i + n) = q i
  pA : ∀ i, A (i + n) = A i
  pB : ∀ i, B (i + n) = B i
  con : ∀ i, ln A B i (2 * q (i + 1)) = ln A B (i + 1) (2 * q (i + 1))
  dist : ∀ i j, q i = q j → (n : Int) ∣ j - i
  f1 : ∀ i j x x', ¬ (n : Int) ∣ j - i → inC q i x → inC q j x → inC q i x' → inC q j x' → ln A B i x < ln A B j x → ln A B i x' ≤ ln A B j x'
  f2 : ∀ i j x, ¬ (n : Int) ∣ j - i → inC q i x → inC q j x → ln A B i x = ln A B j x → x = 2 * q i ∨ x = 2 * q (i + 1)
def bt (q A B : Int → Int) (i t j : Int) : Bool := decide (ov q j t ∧ ln A B j t < ln A B i t)
def par (n : Nat) (q A B : Int → Int) (i t : Int) : Bool := xs n (bt q A B i t)
def dir (q : Int → Int) (i : Int) : Bool := decide (q i < q (i + 1))
def sig (n : Nat) (q A B : Int → Int) (i t : Int) : Bool := (dir q i ^^ par n q A B i t)
theorem bt_out {q A B : Int → Int} {i t j : Int} (h : ¬ ov q j t) : bt q A B i t j = false := decide_eq_false fun e => h e.1
theorem bt_in {q A B : Int → Int} {i t j : Int} (h : ov q j t) : bt q A B i t j = decide (ln A B j t < ln A B i t) := by
  unfold bt
  rw [decide_eq_decide]
  exact ⟨fun e => e.2, fun e => ⟨h, e⟩⟩
theorem ov_in {q : Int → Int} {i t : Int} (h : ov q i t) : inC q i t := by
  unfold ov at h; unfold inC; omega
theorem ov_pass {q : Int → Int} {i c : Int} (h1 : ov q i (2 * c - 1)) (h2 : ov q i (2 * c + 1)) : inC q i (2 * c) ∧ q i ≠ c ∧ q (i + 1) ≠ c := by
  rcases h1 with ⟨a, b⟩ | ⟨a, b⟩ <;> rcases h2 with ⟨d, e⟩ | ⟨d, e⟩
  · exact ⟨.inl ⟨by omega, by omega⟩, by omega, by omega⟩
  · exfalso; omega
  · exfalso; omega
  · exact ⟨.inr ⟨by omega, by omega⟩, by omega, by omega⟩
theorem per_mul {n : Nat} {f : Int → Int} (hf : ∀ i, f (i + n) = f i) (i : Int) : ∀ k : Nat, f (i + n * k) = f i
  | 0 => by rw [show i + (n : Int) * ((0 : Nat) : Int) = i by simp]
  | k + 1 => by rw [show i + (n : Int) * ((k + 1 : Nat) : Int) = i + n * k + n by rw [show ((k + 1 : Nat) : Int) = (k : Int) + 1 from rfl, Int.mul_add]; omega, hf, per_mul hf i k]
theorem per_dvd {n : Nat} {f : Int → Int} (hf : ∀ i, f (i + n) = f i) {i j : Int} (h : (n : Int) ∣ j - i) : f j = f i := by
  obtain ⟨k, hk⟩ := h
  obtain ⟨b, rfl | rfl⟩ : ∃ b : Nat, k = b ∨ k = -(b : Int) := ⟨k.natAbs, by omega⟩
  · rw [show j = i + n * b by omega]; exact per_mul hf i b
  · have := per_mul hf j b
    rw [show j + (n : Int) * b = i by rw [Int.mul_neg] at hk; omega] at this
    exact this.symm
theorem nd_small {n : Nat} {d : Int} (h0 : 0 < d) (h1 : d < n) : ¬ (n : Int) ∣ d := fun h => by
  have := Int.le_of_dvd h0 h
  omega
section
variable {n : Nat} {q A B : Int → Int} (R : Rg n q A B)
include R
theorem Rg.q1 (i : Int) : q i ≠ q (i + 1) := fun h => nd_small (n := n) (d := 1) (by decide) (by have := R.n3; omega) (by have := R.dist i (i + 1) h; rwa [show i + 1 - i = 1 by omega] at this)
theorem Rg.ne {i j t : Int} (hi : ov q i t) (hj : ov q j t) (h : ¬ (n : Int) ∣ j - i) : ln A B i t ≠ ln A B j t := fun e => by
  have := R.f2 i j t h (ov_in hi) (ov_in hj) e
  unfold ov at hi; omega
theorem Rg.keep {i j x x' : Int} (h : ¬ (n : Int) ∣ j - i) (h1 : inC q i x) (h2 : inC q j x) (h3 : inC q i x') (h4 : inC q j x') (hl : ln A B i x < ln A B j x) (hn : ln A B i x' ≠ ln A B j x') : ln A B i x' < ln A B j x' := by
  have := R.f1 i j x x' h h1 h2 h3 h4 hl
  omega
theorem Rg.sym {i j : Int} (h : ¬ (n : Int) ∣ j - i) : ¬ (n : Int) ∣ i - j := fun e => h (by
  have := Int.dvd_neg.mpr e
  rwa [show -(i - j) = j - i by omega] at this)
theorem Rg.keep_iff {i j x x' : Int} (h : ¬ (n : Int) ∣ j - i) (h1 : inC q i x) (h2 : inC q j x) (h3 : inC q i x') (h4 : inC q j x') (hm : ln A B i x ≠ ln A B j x) (hn : ln A B i x' ≠ ln A B j x') : ln A B i x' < ln A B j x' ↔ ln A B i x < ln A B j x := by
  constructor
  · exact fun hl => R.keep h h3 h4 h1 h2 hl hm
  · exact fun hl => R.keep h h1 h2 h3 h4 hl hn
theorem Rg.bt_self {i j t : Int} (h : (n : Int) ∣ j - i) : bt q A B i t j = false := by
  unfold bt ln
  rw [per_dvd R.pA h, per_dvd R.pB h]
  exact decide_eq_false fun h => Int.lt_irrefl _ h.2
/-- over a column where i ends, for a side that does not end there -/
theorem Rg.bt_col {i j c t : Int} (h : ¬ (n : Int) ∣ j - i) (hc : c = q i ∨ c = q (i + 1)) (ht : t = 2 * c - 1 ∨ t = 2 * c + 1) (hi : ov q i t) (h1 : q j ≠ c) (h2 : q (j + 1) ≠ c) :
    bt q A B i t j = decide (ov q j (2 * c) ∧ ln A B j (2 * c) < ln A B i (2 * c)) := by
  unfold bt
  have hci : inC q i (2 * c) := by unfold inC; rcases hc with rfl | rfl <;> unfold ov at hi <;> omega
  have hov : ov q j t ↔ ov q j (2 * c) := by unfold ov; omega
  by_cases ho : ov q j t
  · have ho2 := hov.mp ho
    have hs := R.sym h
    have hn : ln A B j t ≠ ln A B i t := R.ne ho hi hs
    have hm : ln A B j (2 * c) ≠ ln A B i (2 * c) := fun e => by
      have := R.f2 j i (2 * c) hs (ov_in ho2) hci e
      omega
    have := R.keep_iff hs (ov_in ho2) hci (ov_in ho) (ov_in hi) hm hn
    rw [decide_eq_decide]
    exact ⟨fun h => ⟨ho2, this.mp h.2⟩, fun h => ⟨ho, this.mpr h.2⟩⟩
  · rw [decide_eq_false (fun h => ho h.1), decide_eq_false (fun h => ho (hov.mpr h.1))]
/-- the parity of a side is the same on both sides of a column that it passes -/
theorem Rg.pass {i c : Int} (h1 : ov q i (2 * c - 1)) (h2 : ov q i (2 * c + 1)) : par n q A B i (2 * c - 1) = par n q A B i (2 * c + 1) := by
  obtain ⟨g, hg⟩ : ∃ g : Int → Bool, g = fun j => decide (q j = c ∧ ln A B j (2 * c) < ln A B i (2 * c)) := ⟨_, rfl⟩
  obtain ⟨hci, hqi⟩ := ov_pass h1 h2
  have key : ∀ j, (bt q A B i (2 * c - 1) j ^^ bt q A B i (2 * c + 1) j) = (g j ^^ g (j + 1)) := fun j => by
    by_cases h : (n : Int) ∣ j - i
    · rw [R.bt_self h, R.bt_self h, hg]
      dsimp only
      have e0 := per_dvd R.pq h
      have e1 : q (j + 1) = q (i + 1) := per_dvd R.pq (by rwa [show j + 1 - (i + 1) = j - i by omega])
      rw [decide_eq_false (by omega), decide_eq_false (by omega)]
    · have hs := R.sym h
      have hq1 := R.q1 j
      have hcon : ln A B (j + 1) (2 * q (j + 1)) = ln A B j (2 * q (j + 1)) := (R.con j).symm
      have hmeet : ∀ t, (t = 2 * c - 1 ∨ t = 2 * c + 1) → ov q j t → inC q j (2 * c) → (ln A B j t < ln A B i t ↔ ln A B j (2 * c) < ln A B i (2 * c)) := fun t ht ho hcj => by
        have hoi : ov q i t := by rcases ht with rfl | rfl <;> assumption
        refine R.keep_iff hs hcj hci (ov_in ho) (ov_in hoi) (fun e => ?_) (R.ne ho hoi hs)
        have := R.f2 i j (2 * c) h hci hcj e.symm
        omega
      by_cases ha : q j = c
      · have hcj : inC q j (2 * c) := by unfold inC; omega
        have e : g (j + 1) = false := by rw [hg]; exact decide_eq_false (by omega)
        have e2 : g j = decide (ln A B j (2 * c) < ln A B i (2 * c)) := by rw [hg]; rw [decide_eq_decide]; exact ⟨fun h => h.2, fun h => ⟨ha, h⟩⟩
        rw [e, e2, Bool.xor_false]
        by_cases hr : q (j + 1) < c
        · have o1 : ov q j (2 * c - 1) := by unfold ov; omega
          have o2 : ¬ ov q j (2 * c + 1) := by unfold ov; omega
          rw [bt_out o2, bt_in o1, Bool.xor_false, decide_eq_decide]
          exact hmeet _ (.inl rfl) o1 hcj
        · have o1 : ov q j (2 * c + 1) := by unfold ov; omega
          have o2 : ¬ ov q j (2 * c - 1) := by unfold ov; omega
          rw [bt_out o2, bt_in o1, Bool.false_xor, decide_eq_decide]
          exact hmeet _ (.inr rfl) o1 hcj
      · by_cases hb : q (j + 1) = c
        · have hcj : inC q j (2 * c) := by unfold inC; omega
          have e : g j = false := by rw [hg]; exact decide_eq_false (by omega)
          have e2 : g (j + 1) = decide (ln A B j (2 * c) < ln A B i (2 * c)) := by
            rw [hg]; rw [decide_eq_decide]; subst hb; rw [hcon]; exact ⟨fun h => h.2, fun h => ⟨rfl, h⟩⟩
          rw [e, e2, Bool.false_xor]
          by_cases hr : q j < c
          · have o1 : ov q j (2 * c - 1) := by unfold ov; omega
            have o2 : ¬ ov q j (2 * c + 1) := by unfold ov; omega
            rw [bt_out o2, bt_in o1, Bool.xor_false, decide_eq_decide]
            exact hmeet _ (.inl rfl) o1 hcj
          · have o1 : ov q j (2 * c + 1) := by unfold ov; omega
            have o2 : ¬ ov q j (2 * c - 1) := by unfold ov; omega
            rw [bt_out o2, bt_in o1, Bool.false_xor, decide_eq_decide]
            exact hmeet _ (.inr rfl) o1 hcj
        · have e : g j = false := by rw [hg]; exact decide_eq_false (by omega)
          have e2 : g (j + 1) = false := by rw [hg]; exact decide_eq_false (by omega)
          rw [e, e2]
          have ho : ov q j (2 * c - 1) ↔ ov q j (2 * c + 1) := by unfold ov; omega
          by_cases o1 : ov q j (2 * c - 1)
          · have o2 := ho.mp o1
            have hcj : inC q j (2 * c) := (ov_pass o1 o2).1
            have k1 := hmeet _ (.inl rfl) o1 hcj
            have k2 := hmeet _ (.inr rfl) o2 hcj
            rw [bt_in o1, bt_in o2, decide_eq_decide.mpr (k1.trans k2.symm), Bool.xor_self]; rfl
          · rw [bt_out o1, bt_out fun h => o1 (ho.mpr h)]
  have e := xs_xor (bt q A B i (2 * c - 1)) (bt q A B i (2 * c + 1)) n
  rw [xs_congr (g := fun j => (g j ^^ g (j + 1))) fun j _ => key j, xs_tele] at e
  have e0 : g n = g 0 := by
    rw [hg]
    dsimp only
    have a := R.pq 0; have b := R.pA 0; have c := R.pB 0
    rw [Int.zero_add] at a b c
    unfold ln
    rw [a, b, c]
  rw [e0, Bool.xor_self] at e
  unfold par
  revert e
  cases xs n (bt q A B i (2 * c - 1)) <;> cases xs n (bt q A B i (2 * c + 1)) <;> decide
theorem Rg.along {i u : Int} (h1 : ov q i (2 * u + 1)) : ∀ d : Nat, ov q i (2 * (u + d) + 1) → par n q A B i (2 * u + 1) = par n q A B i (2 * (u + d) + 1)
  | 0, _ => by rw [show u + ((0 : Nat) : Int) = u by omega]
  | d + 1, h2 => by
    have hm : ov q i (2 * (u + d) + 1) := by unfold ov at h1 h2 ⊢; omega
    rw [Rg.along h1 d hm]
    have := R.pass (i := i) (c := u + d + 1) (by rwa [show 2 * (u + d + 1) - 1 = 2 * (u + d) + 1 by omega]) (by rwa [show 2 * (u + d + 1) + 1 = 2 * (u + ((d + 1 : Nat) : Int)) + 1 by omega])
    rwa [show 2 * (u + d + 1) - 1 = 2 * (u + d) + 1 by omega, show 2 * (u + (d : Int) + 1) + 1 = 2 * (u + ((d + 1 : Nat) : Int)) + 1 by omega] at this
theorem Rg.side {i u v : Int} (h1 : ov q i (2 * u + 1)) (h2 : ov q i (2 * v + 1)) : par n q A B i (2 * u + 1) = par n q A B i (2 * v + 1) := by
  by_cases h : u ≤ v
  · obtain ⟨d, rfl⟩ : ∃ d : Nat, v = u + d := ⟨(v - u).toNat, by omega⟩
    exact R.along h1 d h2
  · obtain ⟨d, rfl⟩ : ∃ d : Nat, u = v + d := ⟨(u - v).toNat, by omega⟩
    exact (R.along h2 d h1).symm
theorem Rg.bt_per (i t j : Int) : bt q A B i t (j + n) = bt q A B i t j := by
  unfold bt ov ln
  rw [show j + (n : Int) + 1 = j + 1 + n by omega, R.pq, R.pq, R.pA, R.pB]
/-- two neighbours, at their common corner k + 1 -/
theorem Rg.near {k t t' : Int} (ht : t = 2 * q (k + 1) - 1 ∨ t = 2 * q (k + 1) + 1) (ht' : t' = 2 * q (k + 1) - 1 ∨ t' = 2 * q (k + 1) + 1) (o1 : ov q k t) (o2 : ov q (k + 1) t') :
    (par n q A B k t ^^ par n q A B (k + 1) t') = (bt q A B (k + 1) t' k ^^ bt q A B k t (k + 1)) := by
  obtain ⟨f, hf⟩ : ∃ f : Int → Bool, f = fun j => (bt q A B k t j ^^ bt q A B (k + 1) t' j) := ⟨_, rfl⟩
  have hp : ∀ i, f (i + n) = f i := fun i => by rw [hf]; dsimp only; rw [R.bt_per, R.bt_per]
  have e : xs n f = (par n q A B k t ^^ par n q A B (k + 1) t') := by rw [hf]; exact xs_xor _ _ n
  have n3 := R.n3
  rw [← e, ← xs_turn hp k, xs_two (by omega) fun i h2 hi => ?_]
  · rw [hf]
    dsimp only
    rw [show (0 : Int) + k = k by omega, show (1 : Int) + k = k + 1 by omega, R.bt_self (i := k) (j := k) (by simp), R.bt_self (i := k + 1) (j := k + 1) (by simp), Bool.xor_false, Bool.false_xor]
  · rw [hf]
    dsimp only
    have d0 : ¬ (n : Int) ∣ ((i : Int) + k) - k := by rw [show (i : Int) + k - k = i by omega]; exact nd_small (by omega) (by omega)
    have d1 : ¬ (n : Int) ∣ ((i : Int) + k) - (k + 1) := by rw [show (i : Int) + k - (k + 1) = i - 1 by omega]; exact nd_small (by omega) (by omega)
    have h1 : q ((i : Int) + k) ≠ q (k + 1) := fun e => d1 (R.dist _ _ e.symm)
    have h2 : q ((i : Int) + k + 1) ≠ q (k + 1) := fun e => d0 (by have := R.dist _ _ e.symm; rwa [show (i : Int) + k + 1 - (k + 1) = i + k - k by omega] at this)
    rw [R.bt_col (c := q (k + 1)) d0 (.inr rfl) ht o1 h1 h2, R.bt_col (c := q (k + 1)) d1 (.inl rfl) ht' o2 h1 h2, R.con k, Bool.xor_self]
theorem Rg.corner (k : Int) : ∃ u v, ov q k (2 * u + 1) ∧ ov q (k + 1) (2 * v + 1) ∧ sig n q A B k (2 * u + 1) = sig n q A B (k + 1) (2 * v + 1) := by
  have h0 := R.q1 k
  have h1 := R.q1 (k + 1)
  have n3 := R.n3
  have d1 : ¬ (n : Int) ∣ (k + 1) - k := by rw [show k + 1 - k = 1 by omega]; exact nd_small (by omega) (by omega)
  have fin : ∀ (a b c d e f : Bool), (b ^^ d) = (e ^^ f) → (e ^^ f) = (a ^^ c) → (a ^^ b) = (c ^^ d) := by decide
  by_cases ha : q k < q (k + 1) <;> by_cases hb : q (k + 1) < q (k + 1 + 1)
  · have o1 : ov q k (2 * (q (k + 1) - 1) + 1) := by unfold ov; omega
    have o2 : ov q (k + 1) (2 * q (k + 1) + 1) := by unfold ov; omega
    refine ⟨_, _, o1, o2, fin _ _ _ _ _ _ (R.near (by omega) (by omega) o1 o2) ?_⟩
    rw [bt_out (by unfold ov; omega), bt_out (by unfold ov; omega)]
    unfold dir
    rw [decide_eq_true ha, decide_eq_true hb]
    rfl
  · have o1 : ov q k (2 * (q (k + 1) - 1) + 1) := by unfold ov; omega
    have o2 : ov q (k + 1) (2 * (q (k + 1) - 1) + 1) := by unfold ov; omega
    refine ⟨_, _, o1, o2, fin _ _ _ _ _ _ (R.near (by omega) (by omega) o1 o2) ?_⟩
    have hn := R.ne o1 o2 d1
    rw [bt_in o1, bt_in o2]
    unfold dir
    rw [decide_eq_true ha, decide_eq_false hb]
    by_cases hl : ln A B k (2 * (q (k + 1) - 1) + 1) < ln A B (k + 1) (2 * (q (k + 1) - 1) + 1)
    · rw [decide_eq_true hl, decide_eq_false (by omega)]
    · rw [decide_eq_false hl, decide_eq_true (by omega)]; rfl
  · have o1 : ov q k (2 * q (k + 1) + 1) := by unfold ov; omega
    have o2 : ov q (k + 1) (2 * q (k + 1) + 1) := by unfold ov; omega
    refine ⟨_, _, o1, o2, fin _ _ _ _ _ _ (R.near (by omega) (by omega) o1 o2) ?_⟩
    have hn := R.ne o1 o2 d1
    rw [bt_in o1, bt_in o2]
    unfold dir
    rw [decide_eq_false ha, decide_eq_true hb]
    by_cases hl : ln A B k (2 * q (k + 1) + 1) < ln A B (k + 1) (2 * q (k + 1) + 1)
    · rw [decide_eq_true hl, decide_eq_false (by omega)]; rfl
    · rw [decide_eq_false hl, decide_eq_true (by omega)]
  · have o1 : ov q k (2 * q (k + 1) + 1) := by unfold ov; omega
    have o2 : ov q (k + 1) (2 * (q (k + 1) - 1) + 1) := by unfold ov; omega
    refine ⟨_, _, o1, o2, fin _ _ _ _ _ _ (R.near (by omega) (by omega) o1 o2) ?_⟩
    rw [bt_out (by unfold ov; omega), bt_out (by unfold ov; omega)]
    unfold dir
    rw [decide_eq_false ha, decide_eq_false hb]
theorem Rg.same_up (i : Int) {u : Int} (h1 : ov q i (2 * u + 1)) : ∀ (d : Nat) {v : Int}, ov q (i + d) (2 * v + 1) → sig n q A B i (2 * u + 1) = sig n q A B (i + d) (2 * v + 1)
  | 0, v, h2 => by
    rw [show i + ((0 : Nat) : Int) = i by omega] at h2 ⊢
    unfold sig; rw [R.side h1 h2]
  | d + 1, v, h2 => by
    obtain ⟨a, b, ha, hb, e⟩ := R.corner (i + d)
    rw [show i + ((d + 1 : Nat) : Int) = i + d + 1 by omega] at h2 ⊢
    rw [Rg.same_up i h1 d ha, e]
    unfold sig; rw [R.side hb h2]
theorem Rg.same {i j u v : Int} (h1 : ov q i (2 * u + 1)) (h2 : ov q j (2 * v + 1)) : sig n q A B i (2 * u + 1) = sig n q A B j (2 * v + 1) := by
  by_cases h : i ≤ j
  · obtain ⟨d, rfl⟩ : ∃ d : Nat, j = i + d := ⟨(j - i).toNat, by omega⟩
    exact R.same_up i h1 d h2
  · obtain ⟨d, rfl⟩ : ∃ d : Nat, i = j + d := ⟨(i - j).toNat, by omega⟩
    exact (R.same_up j h2 d h1).symm
end
end Mine
end
section
set_option Elab.async false
namespace Mine
def cc (q : Int → Int) (i u : Int) : Int := (if u < q (i + 1) then 1 else 0) - (if u < q i then 1 else 0)
theorem gate_sum {f G : Int → Int} (hG : ∀ u, G (u + 1) = G u + f u) (p : Int) (hp : 0 ≤ p) : ∀ M : Nat, sm M (fun u => (if u < p then 1 else 0) * f u) = G (min p M) - G 0
  | 0 => by rw [show min p ((0 : Nat) : Int) = 0 by omega, sm]; omega
  | M + 1 => by
    rw [sm, gate_sum hG p hp M]
    by_cases h : (M : Int) < p
    · rw [if_pos h, show min p (M : Int) = M by omega, show min p ((M + 1 : Nat) : Int) = M + 1 by omega, hG]; omega
    · rw [if_neg h, show min p (M : Int) = p by omega, show min p ((M + 1 : Nat) : Int) = p by omega]; omega
theorem side_sum {q A B : Int → Int} {M : Nat} (i : Int) (h0 : ∀ k, 0 ≤ q k ∧ q k ≤ M) :
    sm M (fun u => cc q i u * ln A B i (2 * u + 1)) = (A i * q (i + 1) + B i * (q (i + 1) * q (i + 1))) - (A i * q i + B i * (q i * q i)) := by
  have hG : ∀ u : Int, (fun p : Int => A i * p + B i * (p * p)) (u + 1) = (fun p : Int => A i * p + B i * (p * p)) u + ln A B i (2 * u + 1) := fun u => by
    show A i * (u + 1) + B i * ((u + 1) * (u + 1)) = (A i * u + B i * (u * u)) + (A i + B i * (2 * u + 1))
    grind
  have a := gate_sum (f := fun u => ln A B i (2 * u + 1)) (G := fun p => A i * p + B i * (p * p)) hG (q (i + 1)) (h0 _).1 M
  have b := gate_sum (f := fun u => ln A B i (2 * u + 1)) (G := fun p => A i * p + B i * (p * p)) hG (q i) (h0 _).1 M
  rw [show min (q (i + 1)) (M : Int) = q (i + 1) by have := h0 (i + 1); omega] at a
  rw [show min (q i) (M : Int) = q i by have := h0 i; omega] at b
  have e : sm M (fun u => cc q i u * ln A B i (2 * u + 1)) = sm M (fun u => (if u < q (i + 1) then 1 else 0) * ln A B i (2 * u + 1)) + -1 * sm M (fun u => (if u < q i then 1 else 0) * ln A B i (2 * u + 1)) := by
    rw [← sm_mul, ← sm_add]
    exact sm_congr fun u _ => by unfold cc; rw [Int.sub_mul]; omega
  rw [e, a, b]
  (try dsimp only)
  omega
def crossQ (q A B : Int → Int) (i : Int) : Int := q i * ln A B (i + 1) (2 * q (i + 1)) - q (i + 1) * ln A B i (2 * q i)
def sgn (s : Bool) : Int := if s then 1 else -1
def ls (q A B : Int → Int) (t : Int) : Nat → List Int
  | 0 => []
  | k + 1 => if ov q k t then ln A B k t :: ls q A B t k else ls q A B t k
theorem ls_ws {q A B : Int → Int} {t : Int} (f : Int → Int) : ∀ k : Nat, ws f (ls q A B t k) = sm k (fun i => if ov q i t then f (ln A B i t) else 0)
  | 0 => rfl
  | k + 1 => by
    rw [ls, sm, ← ls_ws f k]
    by_cases h : ov q k t
    · rw [if_pos h, if_pos h, ws]; omega
    · rw [if_neg h, if_neg h]; omega
theorem ls_cp {q A B : Int → Int} {t : Int} (x : Int) : ∀ k : Nat, cp (ls q A B t k) x = xs k (fun j => decide (ov q j t ∧ ln A B j t < x))
  | 0 => rfl
  | k + 1 => by
    rw [ls, xs, ← ls_cp x k]
    by_cases h : ov q k t
    · rw [if_pos h, cp, Bool.xor_comm]; congr 1; rw [decide_eq_decide]; exact ⟨fun e => ⟨h, e⟩, fun e => e.2⟩
    · rw [if_neg h, decide_eq_false fun e => h e.1, Bool.xor_false]
theorem ls_lp {q A B : Int → Int} {t : Int} : ∀ k : Nat, lp (ls q A B t k) = xs k (fun j => decide (ov q j t))
  | 0 => rfl
  | k + 1 => by
    rw [ls, xs, ← ls_lp k]
    by_cases h : ov q k t
    · rw [if_pos h, lp, decide_eq_true h, Bool.xor_true]
    · rw [if_neg h, decide_eq_false h, Bool.xor_false]
theorem ls_mem {q A B : Int → Int} {t x : Int} : ∀ {k : Nat}, x ∈ ls q A B t k → ∃ j : Nat, j < k ∧ ov q j t ∧ x = ln A B j t
  | 0, h => nomatch h
  | k + 1, h => by
    rw [ls] at h
    by_cases ho : ov q k t
    · rw [if_pos ho] at h
      rcases List.mem_cons.mp h with rfl | h
      · exact ⟨k, by omega, ho, rfl⟩
      · obtain ⟨j, hj, r⟩ := ls_mem h; exact ⟨j, by omega, r⟩
    · rw [if_neg ho] at h
      obtain ⟨j, hj, r⟩ := ls_mem h; exact ⟨j, by omega, r⟩
theorem ls_in {q A B : Int → Int} {t : Int} : ∀ {k : Nat} {j : Nat}, j < k → ov q j t → ln A B j t ∈ ls q A B t k
  | 0, _, h, _ => absurd h (Nat.not_lt_zero _)
  | k + 1, j, h, ho => by
    rw [ls]
    by_cases e : j = k
    · subst e; rw [if_pos ho]; exact .head _
    · have := ls_in (A := A) (B := B) (k := k) (j := j) (by omega) ho
      by_cases h2 : ov q k t
      · rw [if_pos h2]; exact .tail _ this
      · rw [if_neg h2]; exact this
section
variable {n : Nat} {q A B : Int → Int} (R : Rg n q A B)
include R
theorem Rg.nodup {t : Int} : ∀ k : Nat, k ≤ n → (ls q A B t k).Nodup
  | 0, _ => .nil
  | k + 1, hk => by
    have ih := Rg.nodup (t := t) k (by omega)
    rw [ls]
    by_cases ho : ov q k t
    · rw [if_pos ho]
      refine List.nodup_cons.mpr ⟨fun h => ?_, ih⟩
      obtain ⟨j, hj, hoj, e⟩ := ls_mem h
      exact R.ne hoj ho (nd_small (by omega) (by omega)) e.symm
    · rw [if_neg ho]; exact ih
theorem Rg.even (u : Int) : lp (ls q A B (2 * u + 1) n) = false := by
  rw [ls_lp]
  have e : ∀ j : Nat, j < n → (fun j => decide (ov q j (2 * u + 1))) (j : Int) = (fun j : Int => ((fun j => decide (q j ≤ u)) j ^^ (fun j => decide (q j ≤ u)) (j + 1))) j := fun j _ => by
    dsimp only
    by_cases h1 : q j ≤ u <;> by_cases h2 : q (j + 1) ≤ u
    · rw [decide_eq_false (by unfold ov; omega), decide_eq_true h1, decide_eq_true h2]; rfl
    · rw [decide_eq_true (by unfold ov; omega), decide_eq_true h1, decide_eq_false h2]; rfl
    · rw [decide_eq_true (by unfold ov; omega), decide_eq_false h1, decide_eq_true h2]; rfl
    · rw [decide_eq_false (by unfold ov; omega), decide_eq_false h1, decide_eq_false h2]; rfl
  rw [xs_congr (f := fun j => decide (ov q j (2 * u + 1))) (g := fun j : Int => ((fun j => decide (q j ≤ u)) j ^^ (fun j => decide (q j ≤ u)) (j + 1))) e, xs_tele]
  have := R.pq 0
  rw [Int.zero_add] at this
  (try dsimp only)
  rw [this, Bool.xor_self]
theorem Rg.wl_slab (u : Int) : wl (ls q A B (2 * u + 1) n) = sm n (fun i => if ov q i (2 * u + 1) then alt (par n q A B i (2 * u + 1)) * ln A B i (2 * u + 1) else 0) := by
  unfold wl
  rw [ls_ws]
  refine sm_congr fun i _ => ?_
  (try dsimp only)
  rw [ls_cp]
  rfl
theorem Rg.slab {s : Bool} (hs : ∀ i u, ov q i (2 * u + 1) → sig n q A B i (2 * u + 1) = s) (u : Int) :
    sm n (fun i => cc q i u * ln A B i (2 * u + 1)) = sgn s * wl (ls q A B (2 * u + 1) n) := by
  rw [R.wl_slab, ← sm_mul]
  refine sm_congr fun i _ => ?_
  (try dsimp only)
  by_cases h : ov q i (2 * u + 1)
  · rw [if_pos h, ← Int.mul_assoc]
    congr 1
    rw [← hs i u h]
    unfold sig cc dir sgn alt
    cases par n q A B i (2 * u + 1)
    · by_cases hd : q i < q (i + 1)
      · rw [decide_eq_true hd, if_pos (by unfold ov at h; omega), if_neg (by unfold ov at h; omega)]; rfl
      · rw [decide_eq_false hd, if_neg (by unfold ov at h; omega), if_pos (by unfold ov at h; omega)]; rfl
    · by_cases hd : q i < q (i + 1)
      · rw [decide_eq_true hd, if_pos (by unfold ov at h; omega), if_neg (by unfold ov at h; omega)]; rfl
      · rw [decide_eq_false hd, if_neg (by unfold ov at h; omega), if_pos (by unfold ov at h; omega)]; rfl
  · rw [if_neg h, Int.mul_zero]
    have h1 := R.q1 i
    have : cc q i u = 0 := by
      unfold cc
      by_cases h2 : (u : Int) < q i
      · rw [if_pos h2, if_pos (by unfold ov at h; omega)]; rfl
      · rw [if_neg h2, if_neg (by unfold ov at h; omega)]; rfl
    rw [this, Int.zero_mul]
theorem Rg.area {M : Nat} (h0 : ∀ k, 0 ≤ q k ∧ q k ≤ M) : sm n (crossQ q A B) = -2 * sm M (fun u => sm n (fun i => cc q i u * ln A B i (2 * u + 1))) := by
  rw [← sm_swap (fun i u => cc q i u * ln A B i (2 * u + 1)), ← sm_mul]
  obtain ⟨T, hT⟩ : ∃ T : Int → Int, T = fun i => q i * ln A B i (2 * q i) := ⟨_, rfl⟩
  have hz : sm n (fun i => T (i + 1) - T i) = 0 := by
    rw [sm_tele, hT]
    have a := R.pq 0; have b := R.pA 0; have c := R.pB 0
    rw [Int.zero_add] at a b c
    dsimp only
    unfold ln
    rw [a, b, c]; omega
  have e : sm n (crossQ q A B) = sm n (fun i => (T (i + 1) - T i) + -2 * sm M (fun u => cc q i u * ln A B i (2 * u + 1))) := sm_congr fun i _ => by
    rw [side_sum i h0, hT]
    have hc := R.con i
    unfold crossQ
    dsimp only
    rw [← hc]
    unfold ln
    grind
  rw [e, sm_add, hz, Int.zero_add]
theorem Rg.law {M : Nat} {k : Int} (h0 : ∀ k, 0 ≤ q k ∧ q k ≤ M) (hm : ∀ j, q (k + 1) ≤ q j) :
    (B (k + 1) < B k → 0 < sm n (crossQ q A B)) ∧ (B k < B (k + 1) → sm n (crossQ q A B) < 0) ∧ B k ≠ B (k + 1) := by
  have hk := R.q1 k
  have hk1 := R.q1 (k + 1)
  have m0 := hm k
  have m1 := hm (k + 1 + 1)
  have n3 := R.n3
  have d1 : ¬ (n : Int) ∣ (k + 1) - k := by rw [show k + 1 - k = 1 by omega]; exact nd_small (by omega) (by omega)
  have o1 : ov q k (2 * q (k + 1) + 1) := by unfold ov; omega
  have o2 : ov q (k + 1) (2 * q (k + 1) + 1) := by unfold ov; omega
  have hn := R.ne o1 o2 d1
  have hc := R.con k
  have hlow : ∀ j, ov q j (2 * q (k + 1) + 1) → (n : Int) ∣ j - (k + 1) ∨ (n : Int) ∣ j - k := fun j ho => by
    have a := hm j
    have b := hm (j + 1)
    by_cases e : q j = q (k + 1)
    · exact .inl (R.dist _ _ e.symm)
    · refine .inr ?_
      have e2 : q (j + 1) = q (k + 1) := by unfold ov at ho; omega
      have := R.dist _ _ e2.symm
      rwa [show j + 1 - (k + 1) = j - k by omega] at this
  have hall : ∀ s : Bool, (∃ i, ov q i (2 * q (k + 1) + 1) ∧ sig n q A B i (2 * q (k + 1) + 1) = s) → sm n (crossQ q A B) = -2 * (sgn s * sm M (fun u => wl (ls q A B (2 * u + 1) n))) := fun s ⟨i, ho, hsi⟩ => by
    rw [R.area h0, ← sm_mul (sgn s)]
    congr 1
    have hs : ∀ j u, ov q j (2 * u + 1) → sig n q A B j (2 * u + 1) = s := fun j u hj => by rw [← hsi]; exact R.same hj ho
    exact sm_congr (f := fun u => sm n (fun i => cc q i u * ln A B i (2 * u + 1))) (g := fun u => sgn s * wl (ls q A B (2 * u + 1) n)) fun u _ => R.slab hs u
  have hneg : sm M (fun u => wl (ls q A B (2 * u + 1) n)) < 0 := by
    have b0 := h0 (k + 1)
    have b1 := h0 k
    refine sm_lt (fun u _ => (wl_neg (R.nodup n (Nat.le_refl _)) (R.even u)).1) (q (k + 1)).toNat (by omega) ?_
    rw [show (((q (k + 1)).toNat : Nat) : Int) = q (k + 1) by omega]
    refine (wl_neg (R.nodup n (Nat.le_refl _)) (R.even _)).2 fun e => ?_
    have hj : ov q (((k % n).toNat : Nat) : Int) (2 * q (k + 1) + 1) := by
      have h1 := Int.emod_nonneg k (b := (n : Int)) (by omega)
      rw [show (((k % n).toNat : Nat) : Int) = k % n by omega]
      have hd : (n : Int) ∣ k % n - k := ⟨-(k / n), by have := Int.mul_ediv_add_emod k n; rw [Int.mul_neg]; omega⟩
      have hd2 : (n : Int) ∣ k % n + 1 - (k + 1) := by rwa [show k % n + 1 - (k + 1) = k % n - k by omega]
      unfold ov
      rw [per_dvd R.pq hd, per_dvd R.pq hd2]
      exact o1
    have := ls_in (A := A) (B := B) (k := n) (by
      have h1 := Int.emod_nonneg k (b := (n : Int)) (by omega)
      have h2 := Int.emod_lt_of_pos k (b := (n : Int)) (by omega)
      omega) hj
    rw [e] at this
    exact nomatch this
  have l1 : ln A B k (2 * q (k + 1) + 1) = ln A B k (2 * q (k + 1)) + B k := by unfold ln; rw [Int.mul_add]; omega
  have l2 : ln A B (k + 1) (2 * q (k + 1) + 1) = ln A B (k + 1) (2 * q (k + 1)) + B (k + 1) := by unfold ln; rw [Int.mul_add]; omega
  refine ⟨fun h => ?_, fun h => ?_, fun h => ?_⟩
  · have hp : par n q A B (k + 1) (2 * q (k + 1) + 1) = false := xs_false fun j _ => by
      by_cases ho : ov q j (2 * q (k + 1) + 1)
      · rcases hlow j ho with hd | hd
        · exact R.bt_self hd
        · rw [bt_in ho]
          unfold ln at l1 l2 hc ⊢
          rw [per_dvd R.pA hd, per_dvd R.pB hd]
          exact decide_eq_false (by omega)
      · exact bt_out ho
    rw [hall true ⟨k + 1, o2, by unfold sig dir; rw [hp, decide_eq_true (by omega)]; rfl⟩]
    unfold sgn
    rw [if_pos rfl]
    omega
  · have hp : par n q A B k (2 * q (k + 1) + 1) = false := xs_false fun j _ => by
      by_cases ho : ov q j (2 * q (k + 1) + 1)
      · rcases hlow j ho with hd | hd
        · rw [bt_in ho]
          unfold ln at l1 l2 hc ⊢
          rw [per_dvd R.pA hd, per_dvd R.pB hd]
          exact decide_eq_false (by omega)
        · exact R.bt_self hd
      · exact bt_out ho
    rw [hall false ⟨k, o1, by unfold sig dir; rw [hp, decide_eq_false (by omega)]; rfl⟩]
    unfold sgn
    rw [if_neg (by decide)]
    omega
  · exact hn (by rw [l1, l2, hc, h])
end
end Mine
end
section
set_option Elab.async false
namespace Mine
/-- twice the area of three points, in whole numbers -/
def tri (p q r : Int × Int) : Int := (q.1 - p.1) * (r.2 - p.2) - (q.2 - p.2) * (r.1 - p.1)
def col (p : Int × Int) : Int := 5 * p.1 + p.2
def InGrid (p : Int × Int) : Prop := (0 ≤ p.1 ∧ p.1 ≤ 4) ∧ (0 ≤ p.2 ∧ p.2 ≤ 4)
def opp (x y : Int) : Prop := (x < 0 ∧ 0 < y) ∨ (0 < x ∧ y < 0)
def Upon (a b p : Int × Int) : Prop := ((col a ≤ col p ∧ col p ≤ col b) ∨ (col b ≤ col p ∧ col p ≤ col a)) ∧ tri a b p = 0
structure Apart (a b c d : Int × Int) : Prop where
  one1 : ¬ (a = c ∧ b = d)
  one2 : ¬ (a = d ∧ b = c)
  ua : Upon c d a → a = c ∨ a = d
  ub : Upon c d b → b = c ∨ b = d
  uc : Upon a b c → c = a ∨ c = b
  ud : Upon a b d → d = a ∨ d = b
  cr : a ≠ c → a ≠ d → b ≠ c → b ≠ d → opp (tri a b c) (tri a b d) → opp (tri c d a) (tri c d b) → False
theorem tri_swap (a b p : Int × Int) : tri b a p = - tri a b p := by unfold tri; grind
theorem opp_neg {x y : Int} : opp (-x) (-y) ↔ opp x y := by unfold opp; omega
theorem opp_comm {x y : Int} : opp x y ↔ opp y x := by unfold opp; omega
theorem upon_swap {a b p : Int × Int} : Upon b a p ↔ Upon a b p := by
  unfold Upon; rw [tri_swap a b p]; omega
theorem Apart.symm {a b c d : Int × Int} (h : Apart a b c d) : Apart c d a b where
  one1 := fun e => h.one1 ⟨e.1.symm, e.2.symm⟩
  one2 := fun e => h.one2 ⟨e.2.symm, e.1.symm⟩
  ua := h.uc
  ub := h.ud
  uc := h.ua
  ud := h.ub
  cr := fun h1 h2 h3 h4 o1 o2 => h.cr h1.symm h3.symm h2.symm h4.symm o2 o1
theorem Apart.swap {a b c d : Int × Int} (h : Apart a b c d) : Apart b a c d where
  one1 := fun e => h.one2 ⟨e.2, e.1⟩
  one2 := fun e => h.one1 ⟨e.2, e.1⟩
  ua := h.ub
  ub := h.ua
  uc := fun u => (h.uc (upon_swap.mp u)).symm
  ud := fun u => (h.ud (upon_swap.mp u)).symm
  cr := fun h1 h2 h3 h4 o1 o2 => h.cr h3 h4 h1 h2 (by rw [tri_swap a b c, tri_swap a b d] at o1; exact opp_neg.mp o1) (opp_comm.mp o2)
theorem Apart.swap2 {a b c d : Int × Int} (h : Apart a b c d) : Apart a b d c := h.symm.swap.symm
structure Good (n : Nat) (P : Int → Int × Int) : Prop where
  n3 : 3 ≤ n
  per : ∀ i, P (i + n) = P i
  grid : ∀ i, InGrid (P i)
  dist : ∀ i j, P i = P j → (n : Int) ∣ j - i
  apart : ∀ i j, ¬ (n : Int) ∣ j - i → Apart (P i) (P (i + 1)) (P j) (P (j + 1))
theorem Good.shift {n : Nat} {P : Int → Int × Int} (G : Good n P) (c : Int) : Good n (fun i => P (i + c)) where
  n3 := G.n3
  per := fun i => by rw [show i + (n : Int) + c = i + c + n by omega, G.per]
  grid := fun i => G.grid _
  dist := fun i j h => by have := G.dist _ _ h; rwa [show j + c - (i + c) = j - i by omega] at this
  apart := fun i j h => by
    have := G.apart (i + c) (j + c) (by rwa [show j + c - (i + c) = j - i by omega])
    rwa [show i + c + 1 = i + 1 + c by omega, show j + c + 1 = j + 1 + c by omega] at this
theorem Good.turn {n : Nat} {P : Int → Int × Int} (G : Good n P) (c : Int) : Good n (fun i => P (c - i)) where
  n3 := G.n3
  per := fun i => by rw [← G.per]; congr 1; omega
  grid := fun i => G.grid _
  dist := fun i j h => by have := G.dist _ _ h.symm; rwa [show c - i - (c - j) = j - i by omega] at this
  apart := fun i j h => by
    have := G.apart (c - (i + 1)) (c - (j + 1)) (fun e => h (by have := Int.dvd_neg.mpr e; rwa [show -(c - (j + 1) - (c - (i + 1))) = j - i by omega] at this))
    rw [show c - (i + 1) + 1 = c - i by omega, show c - (j + 1) + 1 = c - j by omega] at this
    exact this.swap.swap2
/-- twice the least common multiple of 1 .. 24 -/
def KK : Int := 10708457760
theorem kk_pos : 0 < KK := by decide
theorem kk_dvd : ∀ d : Nat, d < 25 → 0 < d → 2 * d ∣ 10708457760 := by decide
theorem kk_div {d : Int} (h0 : d ≠ 0) (h1 : -24 ≤ d) (h2 : d ≤ 24) : 2 * d * (KK / (2 * d)) = KK := by
  refine Int.mul_ediv_cancel' ?_
  have h := kk_dvd d.natAbs (by omega) (by omega)
  have h3 : ((2 * d.natAbs : Nat) : Int) ∣ KK := Int.natCast_dvd_natCast.mpr h
  by_cases hd : 0 ≤ d
  · rwa [show ((2 * d.natAbs : Nat) : Int) = 2 * d by omega] at h3
  · rw [show ((2 * d.natAbs : Nat) : Int) = -(2 * d) by omega] at h3
    exact Int.neg_dvd.mp h3
def gq (P : Int → Int × Int) (i : Int) : Int := col (P i)
def gB (P : Int → Int × Int) (i : Int) : Int := KK / (2 * (gq P (i + 1) - gq P i)) * ((P (i + 1)).2 - (P i).2)
def gA (P : Int → Int × Int) (i : Int) : Int := KK * (P i).2 - gB P i * (2 * gq P i)
theorem col_inj {p q : Int × Int} (hp : InGrid p) (hq : InGrid q) (h : col p = col q) : p = q := by
  obtain ⟨x, y⟩ := p
  obtain ⟨z, t⟩ := q
  unfold InGrid at hp hq
  unfold col at h
  dsimp only at *
  rw [Prod.mk.injEq]
  omega
theorem col_bd {p : Int × Int} (hp : InGrid p) : 0 ≤ col p ∧ col p ≤ 24 := by
  unfold InGrid at hp; unfold col; omega
theorem two_ends1 {p1 p2 p3 p4 : Prop} {a b c d x : Int} (q01 : p2 → a = d) (q10 : p3 → b = c)
    (c1 : 2 * a ≤ 2 * c ∧ 2 * c ≤ 2 * b → p1 ∨ p3) (c2 : 2 * a ≤ 2 * d ∧ 2 * d ≤ 2 * b → p2 ∨ p4) (c3 : 2 * c ≤ 2 * a ∧ 2 * a ≤ 2 * d → p1 ∨ p2) (c4 : 2 * c ≤ 2 * b ∧ 2 * b ≤ 2 * d → p3 ∨ p4)
    (hx : 2 * a < x ∧ x < 2 * b) (hy : 2 * c < x ∧ x < 2 * d) : p1 ∧ p4 := by
  obtain ⟨x1, x2⟩ := hx
  obtain ⟨y1, y2⟩ := hy
  have n3 : ¬ p3 := fun z => by have := q10 z; clear c1 c2 c3 c4 q01 q10; omega
  have n2 : ¬ p2 := fun z => by have := q01 z; clear c1 c2 c3 c4 q01 q10; omega
  clear q01 q10
  refine ⟨?_, ?_⟩
  · rcases Int.le_total a c with h | h
    · exact (c1 ⟨by omega, by omega⟩).resolve_right n3
    · exact (c3 ⟨by omega, by omega⟩).resolve_right n2
  · rcases Int.le_total b d with h | h
    · exact (c4 ⟨by omega, by omega⟩).resolve_left n3
    · exact (c2 ⟨by omega, by omega⟩).resolve_left n2
theorem two_ends {p1 p2 p3 p4 : Prop} {a b c d x : Int} (q00 : p1 → a = c) (q01 : p2 → a = d) (q10 : p3 → b = c) (q11 : p4 → b = d)
    (c1 : (2 * a ≤ 2 * c ∧ 2 * c ≤ 2 * b) ∨ (2 * b ≤ 2 * c ∧ 2 * c ≤ 2 * a) → p1 ∨ p3) (c2 : (2 * a ≤ 2 * d ∧ 2 * d ≤ 2 * b) ∨ (2 * b ≤ 2 * d ∧ 2 * d ≤ 2 * a) → p2 ∨ p4)
    (c3 : (2 * c ≤ 2 * a ∧ 2 * a ≤ 2 * d) ∨ (2 * d ≤ 2 * a ∧ 2 * a ≤ 2 * c) → p1 ∨ p2) (c4 : (2 * c ≤ 2 * b ∧ 2 * b ≤ 2 * d) ∨ (2 * d ≤ 2 * b ∧ 2 * b ≤ 2 * c) → p3 ∨ p4)
    (o1 : ¬ (p1 ∧ p4)) (o2 : ¬ (p2 ∧ p3)) (hx : (2 * a < x ∧ x < 2 * b) ∨ (2 * b < x ∧ x < 2 * a)) (hy : (2 * c < x ∧ x < 2 * d) ∨ (2 * d < x ∧ x < 2 * c)) : False := by
  rcases hx with hx | hx <;> rcases hy with hy | hy
  · exact o1 (two_ends1 q01 q10 (fun h => c1 (.inl h)) (fun h => c2 (.inl h)) (fun h => c3 (.inl h)) (fun h => c4 (.inl h)) hx hy)
  · exact o2 (two_ends1 q00 q11 (fun h => c2 (.inl h)) (fun h => c1 (.inl h)) (fun h => (c3 (.inr h)).symm) (fun h => (c4 (.inr h)).symm) hx hy)
  · have r := two_ends1 q11 q00 (fun h => (c1 (.inr h)).symm) (fun h => (c2 (.inr h)).symm) (fun h => c4 (.inl h)) (fun h => c3 (.inl h)) hx hy
    exact o2 ⟨r.2, r.1⟩
  · have r := two_ends1 q10 q01 (fun h => (c2 (.inr h)).symm) (fun h => (c1 (.inr h)).symm) (fun h => (c4 (.inr h)).symm) (fun h => (c3 (.inr h)).symm) hx hy
    exact o1 ⟨r.2, r.1⟩
theorem in_out {q : Int → Int} {i x x' : Int} (a : inC q i x) (b : inC q i x') (hne : 2 * q i ≠ 2 * q (i + 1)) :
    (2 * q i ≤ x ∧ 2 * q i ≤ x' ∧ x ≤ 2 * q (i + 1) ∧ x' ≤ 2 * q (i + 1)) ∨ (2 * q (i + 1) ≤ x ∧ 2 * q (i + 1) ≤ x' ∧ x ≤ 2 * q i ∧ x' ≤ 2 * q i) := by
  rcases a with a | a <;> rcases b with b | b
  · exact .inl ⟨a.1, b.1, a.2, b.2⟩
  · exact absurd (Int.le_antisymm (Int.le_trans a.1 a.2) (Int.le_trans b.1 b.2)) hne
  · exact absurd (Int.le_antisymm (Int.le_trans b.1 b.2) (Int.le_trans a.1 a.2)) hne
  · exact .inr ⟨a.1, b.1, a.2, b.2⟩
/-- affine: opposite signs go outwards -/
theorem aff_opp {α β x x' e e' : Int} (h1 : α + β * x < 0) (h2 : 0 < α + β * x') (h : (e ≤ x ∧ e ≤ x' ∧ x ≤ e' ∧ x' ≤ e') ∨ (e' ≤ x ∧ e' ≤ x' ∧ x ≤ e ∧ x' ≤ e)) : opp (α + β * e) (α + β * e') := by
  have hb : 0 ≤ β ∨ β ≤ 0 := by omega
  have key : ∀ {s t : Int}, 0 ≤ β → s ≤ t → β * s ≤ β * t := fun hb hs => Int.mul_le_mul_of_nonneg_left hs hb
  have key2 : ∀ {s t : Int}, β ≤ 0 → s ≤ t → β * t ≤ β * s := fun hb hs => Int.mul_le_mul_of_nonpos_left hb hs
  unfold opp
  rcases hb with hb | hb <;> rcases h with ⟨a, b, c, d⟩ | ⟨a, b, c, d⟩
  · have := key hb a; have := key hb d; omega
  · have := key hb a; have := key hb b; have := key hb c; have := key hb d; omega
  · have := key2 hb a; have := key2 hb b; have := key2 hb c; have := key2 hb d; omega
  · have := key2 hb a; have := key2 hb b; have := key2 hb c; have := key2 hb d; omega
theorem aff_opp0 {α β x e e' : Int} (h1 : α + β * x = 0) (h2 : β ≠ 0) (h : (e < x ∧ x < e') ∨ (e' < x ∧ x < e)) : opp (α + β * e) (α + β * e') := by
  have hb : 0 < β ∨ β < 0 := by omega
  unfold opp
  rcases hb with hb | hb <;> rcases h with ⟨a, b⟩ | ⟨a, b⟩
  · have := Int.mul_lt_mul_of_pos_left a hb; have := Int.mul_lt_mul_of_pos_left b hb; omega
  · have := Int.mul_lt_mul_of_pos_left a hb; have := Int.mul_lt_mul_of_pos_left b hb; omega
  · have := Int.mul_lt_mul_of_neg_left a hb; have := Int.mul_lt_mul_of_neg_left b hb; omega
  · have := Int.mul_lt_mul_of_neg_left a hb; have := Int.mul_lt_mul_of_neg_left b hb; omega
theorem pos_of_mul {a b : Int} (ha : 0 < a) (h : 0 < a * b) : 0 < b := by
  rcases Int.lt_trichotomy b 0 with hb | rfl | hb
  · have := Int.mul_neg_of_pos_of_neg ha hb; omega
  · simp at h
  · exact hb
theorem neg_of_mul {a b : Int} (ha : 0 < a) (h : a * b < 0) : b < 0 := by
  rcases Int.lt_trichotomy b 0 with hb | rfl | hb
  · exact hb
  · simp at h
  · have := Int.mul_pos ha hb; omega
theorem opp_scale {a b x y z t : Int} (ha : a ≠ 0) (hb : 0 < b) (h1 : a * x = b * z) (h2 : a * y = b * t) (h : opp x y) : opp z t := by
  rcases Int.lt_or_gt_of_ne ha with hn | hp
  · rcases h with ⟨h3, h4⟩ | ⟨h3, h4⟩
    · refine .inr ⟨pos_of_mul hb ?_, neg_of_mul hb ?_⟩
      · rw [← h1]; exact Int.mul_pos_of_neg_of_neg hn h3
      · rw [← h2]; exact Int.mul_neg_of_neg_of_pos hn h4
    · refine .inl ⟨neg_of_mul hb ?_, pos_of_mul hb ?_⟩
      · rw [← h1]; exact Int.mul_neg_of_neg_of_pos hn h3
      · rw [← h2]; exact Int.mul_pos_of_neg_of_neg hn h4
  · rcases h with ⟨h3, h4⟩ | ⟨h3, h4⟩
    · refine .inl ⟨neg_of_mul hb ?_, pos_of_mul hb ?_⟩
      · rw [← h1]; exact Int.mul_neg_of_pos_of_neg hp h3
      · rw [← h2]; exact Int.mul_pos hp h4
    · refine .inr ⟨pos_of_mul hb ?_, neg_of_mul hb ?_⟩
      · rw [← h1]; exact Int.mul_pos hp h3
      · rw [← h2]; exact Int.mul_neg_of_pos_of_neg hp h4
section
variable {n : Nat} {P : Int → Int × Int} (G : Good n P)
include G
theorem Good.qne (i : Int) : gq P (i + 1) - gq P i ≠ 0 := fun h => by
  have := G.n3
  have h2 := G.dist i (i + 1) (col_inj (G.grid _) (G.grid _) (by unfold gq at h; omega))
  rw [show i + 1 - i = 1 by omega] at h2
  exact nd_small (n := n) (d := 1) (by decide) (by omega) h2
theorem Good.slope (i : Int) : 2 * (gq P (i + 1) - gq P i) * gB P i = KK * ((P (i + 1)).2 - (P i).2) := by
  have a := col_bd (G.grid i)
  have b := col_bd (G.grid (i + 1))
  have := kk_div (G.qne i) (by unfold gq; omega) (by unfold gq; omega)
  unfold gB
  rw [← Int.mul_assoc, this]
theorem Good.at0 (i : Int) : ln (gA P) (gB P) i (2 * gq P i) = KK * (P i).2 := by unfold ln gA; omega
theorem Good.at1 (i : Int) : ln (gA P) (gB P) i (2 * gq P (i + 1)) = KK * (P (i + 1)).2 := by
  have := G.slope i
  unfold ln gA
  grind
/-- where a point stands to a side -/
theorem Good.stand (i : Int) (p : Int × Int) : (gq P (i + 1) - gq P i) * (KK * p.2 - ln (gA P) (gB P) i (2 * col p)) = 5 * KK * tri (P i) (P (i + 1)) p := by
  have h := G.slope i
  have e : ln (gA P) (gB P) i (2 * col p) = KK * (P i).2 + gB P i * (2 * (col p - gq P i)) := by unfold ln gA; grind
  rw [e]
  have e2 : (gq P (i + 1) - gq P i) * (gB P i * (2 * (col p - gq P i))) = KK * ((P (i + 1)).2 - (P i).2) * (col p - gq P i) := by rw [← h]; grind
  have e3 : (gq P (i + 1) - gq P i) * (KK * p.2 - (KK * (P i).2 + gB P i * (2 * (col p - gq P i)))) = KK * ((gq P (i + 1) - gq P i) * (p.2 - (P i).2)) - (gq P (i + 1) - gq P i) * (gB P i * (2 * (col p - gq P i))) := by grind
  rw [e3, e2]
  unfold tri gq col
  grind
/-- a point that lies on the line of a side, within it -/
theorem Good.upon {i : Int} {p : Int × Int} (h : inC (gq P) i (2 * col p)) (e : ln (gA P) (gB P) i (2 * col p) = KK * p.2) : Upon (P i) (P (i + 1)) p := by
  refine ⟨by unfold inC gq at h; omega, ?_⟩
  have := G.stand i p
  rw [e, Int.sub_self, Int.mul_zero] at this
  have k := kk_pos
  rcases Int.mul_eq_zero.mp this.symm with h | h
  · omega
  · exact h
/-- two sides do not cross -/
theorem Good.nocross {i j : Int} (h : ¬ (n : Int) ∣ j - i)
    (h1 : opp (ln (gA P) (gB P) i (2 * gq P i) - ln (gA P) (gB P) j (2 * gq P i)) (ln (gA P) (gB P) i (2 * gq P (i + 1)) - ln (gA P) (gB P) j (2 * gq P (i + 1))))
    (h2 : opp (ln (gA P) (gB P) i (2 * gq P j) - ln (gA P) (gB P) j (2 * gq P j)) (ln (gA P) (gB P) i (2 * gq P (j + 1)) - ln (gA P) (gB P) j (2 * gq P (j + 1)))) : False := by
  have ap := G.apart i j h
  have k := kk_pos
  have k5 : 0 < 5 * KK := by omega
  rw [G.at0 i, G.at1 i] at h1
  rw [G.at0 j, G.at1 j] at h2
  have ne : ∀ {u v : Int × Int}, u = v → KK * u.2 = KK * v.2 := fun e => by rw [e]
  have nc : ∀ {u v : Int × Int}, u = v → col u = col v := fun e => by rw [e]
  refine ap.cr (fun e => ?_) (fun e => ?_) (fun e => ?_) (fun e => ?_) ?_ ?_
  · have e1 : gq P i = gq P j := nc e
    have := G.at0 j
    rw [e1, this, ne e] at h1
    unfold opp at h1; omega
  · have e1 : gq P i = gq P (j + 1) := nc e
    have := G.at1 j
    rw [e1, this, ne e] at h1
    unfold opp at h1; omega
  · have e1 : gq P (i + 1) = gq P j := nc e
    have := G.at0 j
    rw [e1, this, ne e] at h1
    unfold opp at h1; omega
  · have e1 : gq P (i + 1) = gq P (j + 1) := nc e
    have := G.at1 j
    rw [e1, this, ne e] at h1
    unfold opp at h1; omega
  · refine opp_scale (G.qne i) k5 (G.stand i (P j)) (G.stand i (P (j + 1))) ?_
    unfold opp
    unfold opp gq at h2
    omega
  · exact opp_scale (G.qne j) k5 (G.stand j (P i)) (G.stand j (P (i + 1))) h1
theorem Good.diff (i j x : Int) : ln (gA P) (gB P) i x - ln (gA P) (gB P) j x = (gA P i - gA P j) + (gB P i - gB P j) * x := by unfold ln; rw [Int.sub_mul]; omega
theorem Good.rg : Rg n (gq P) (gA P) (gB P) where
  n3 := G.n3
  pq := fun i => by unfold gq; rw [G.per]
  pA := fun i => by
    unfold gA gB gq
    rw [show i + (n : Int) + 1 = i + 1 + n by omega, G.per, G.per]
  pB := fun i => by
    unfold gB gq
    rw [show i + (n : Int) + 1 = i + 1 + n by omega, G.per, G.per]
  con := fun i => by rw [G.at1 i, G.at0 (i + 1)]
  dist := fun i j h => G.dist i j (col_inj (G.grid _) (G.grid _) h)
  f1 := fun i j x x' h a b c d hl => by
    refine Int.not_lt.mp fun hg => ?_
    have hd := G.diff i j
    have d1 : (gA P i - gA P j) + (gB P i - gB P j) * x < 0 := by rw [← hd]; omega
    have d2 : 0 < (gA P i - gA P j) + (gB P i - gB P j) * x' := by rw [← hd]; omega
    refine G.nocross h ?_ ?_
    · rw [hd, hd]
      exact aff_opp d1 d2 (in_out a c fun e => G.qne i (by omega))
    · rw [hd, hd]
      exact aff_opp d1 d2 (in_out b d fun e => G.qne j (by omega))
  f2 := fun i j x h a b e => by
    have hd := G.diff i j
    have ap := G.apart i j h
    have d0 : (gA P i - gA P j) + (gB P i - gB P j) * x = 0 := by rw [← hd]; omega
    refine Classical.byContradiction fun hn => ?_
    have nc : ∀ {u v : Int × Int}, u = v → col u = col v := fun e => by rw [e]
    -- an end of j where the two are at one height is an end of i
    have ej0 : inC (gq P) i (2 * gq P j) → ln (gA P) (gB P) i (2 * gq P j) = ln (gA P) (gB P) j (2 * gq P j) → P j = P i ∨ P j = P (i + 1) := fun hc he => ap.uc (G.upon hc (he.trans (G.at0 j)))
    have ej1 : inC (gq P) i (2 * gq P (j + 1)) → ln (gA P) (gB P) i (2 * gq P (j + 1)) = ln (gA P) (gB P) j (2 * gq P (j + 1)) → P (j + 1) = P i ∨ P (j + 1) = P (i + 1) := fun hc he => ap.ud (G.upon hc (he.trans (G.at1 j)))
    have ei0 : inC (gq P) j (2 * gq P i) → ln (gA P) (gB P) i (2 * gq P i) = ln (gA P) (gB P) j (2 * gq P i) → P i = P j ∨ P i = P (j + 1) := fun hc he => ap.ua (G.upon hc (he.symm.trans (G.at0 i)))
    have ei1 : inC (gq P) j (2 * gq P (i + 1)) → ln (gA P) (gB P) i (2 * gq P (i + 1)) = ln (gA P) (gB P) j (2 * gq P (i + 1)) → P (i + 1) = P j ∨ P (i + 1) = P (j + 1) := fun hc he => ap.ub (G.upon hc (he.symm.trans (G.at1 i)))
    have q00 : P i = P j → gq P i = gq P j := nc
    have q01 : P i = P (j + 1) → gq P i = gq P (j + 1) := nc
    have q10 : P (i + 1) = P j → gq P (i + 1) = gq P j := nc
    have q11 : P (i + 1) = P (j + 1) → gq P (i + 1) = gq P (j + 1) := nc
    by_cases hj : x = 2 * gq P j ∨ x = 2 * gq P (j + 1)
    · rcases hj with rfl | rfl
      · rcases ej0 a e with h1 | h1
        · have := q00 h1.symm; omega
        · have := q10 h1.symm; omega
      · rcases ej1 a e with h1 | h1
        · have := q01 h1.symm; omega
        · have := q11 h1.symm; omega
    · by_cases hb : gB P i - gB P j = 0
      · have all : ∀ y, ln (gA P) (gB P) i y = ln (gA P) (gB P) j y := fun y => by
          have := hd y
          rw [hb, Int.zero_mul] at this
          rw [hb, Int.zero_mul] at d0
          omega
        have c1 : inC (gq P) i (2 * gq P j) → P i = P j ∨ P (i + 1) = P j := fun hc => (ej0 hc (all _)).imp Eq.symm Eq.symm
        have c2 : inC (gq P) i (2 * gq P (j + 1)) → P i = P (j + 1) ∨ P (i + 1) = P (j + 1) := fun hc => (ej1 hc (all _)).imp Eq.symm Eq.symm
        have c3 : inC (gq P) j (2 * gq P i) → P i = P j ∨ P i = P (j + 1) := fun hc => ei0 hc (all _)
        have c4 : inC (gq P) j (2 * gq P (i + 1)) → P (i + 1) = P j ∨ P (i + 1) = P (j + 1) := fun hc => ei1 hc (all _)
        have o1 := ap.one1
        have o2 := ap.one2
        exact two_ends q00 q01 q10 q11 c1 c2 c3 c4 o1 o2 (x := x) (by unfold inC at a; omega) (by unfold inC at b; omega)
      · refine G.nocross h ?_ ?_
        · rw [hd, hd]
          exact aff_opp0 d0 hb (by unfold inC at a; omega)
        · rw [hd, hd]
          exact aff_opp0 d0 hb (by unfold inC at b; omega)
end
end Mine
end
section
set_option Elab.async false
namespace Mine
/-- twice the area, side by side -/
def area2 (P : Int → Int × Int) (i : Int) : Int := (P i).1 * (P (i + 1)).2 - (P i).2 * (P (i + 1)).1
theorem Good.law {n : Nat} {P : Int → Int × Int} (G : Good n P) {k : Int} (hm : ∀ j, col (P (k + 1)) ≤ col (P j)) :
    (0 < tri (P k) (P (k + 1)) (P (k + 1 + 1)) → 0 < sm n (area2 P)) ∧ (tri (P k) (P (k + 1)) (P (k + 1 + 1)) < 0 → sm n (area2 P) < 0) ∧ tri (P k) (P (k + 1)) (P (k + 1 + 1)) ≠ 0 := by
  have L := G.rg.law (M := 24) (k := k) (fun j => col_bd (G.grid j)) hm
  have kp := kk_pos
  have e : sm n (crossQ (gq P) (gA P) (gB P)) = 5 * KK * sm n (area2 P) := by
    rw [← sm_mul]
    refine sm_congr fun i _ => ?_
    unfold crossQ area2
    rw [G.at0 i, G.at0 (i + 1)]
    unfold gq col
    grind
  have s := G.stand k (P (k + 1 + 1))
  have a1 := G.at1 (k + 1)
  have a0 := G.at0 (k + 1)
  have a01 := G.at1 k
  have e2 : 5 * KK * tri (P k) (P (k + 1)) (P (k + 1 + 1)) = 2 * ((gq P k - gq P (k + 1)) * (gq P (k + 1 + 1) - gq P (k + 1))) * (gB P k - gB P (k + 1)) := by
    rw [← s]
    have c1 : (col (P (k + 1 + 1))) = gq P (k + 1 + 1) := rfl
    rw [c1, ← a1]
    unfold ln at a0 a01 ⊢
    grind
  have q0 := G.rg.q1 k
  have q1 := G.rg.q1 (k + 1)
  have m0 := hm k
  have m1 := hm (k + 1 + 1)
  have hp : 0 < 2 * ((gq P k - gq P (k + 1)) * (gq P (k + 1 + 1) - gq P (k + 1))) := by
    have := Int.mul_pos (a := gq P k - gq P (k + 1)) (b := gq P (k + 1 + 1) - gq P (k + 1)) (by unfold gq at *; omega) (by unfold gq at *; omega)
    omega
  have k5 : 0 < 5 * KK := by omega
  rw [e] at L
  refine ⟨fun h => ?_, fun h => ?_, fun h => ?_⟩
  · have h1 := Int.mul_pos k5 h
    rw [e2] at h1
    have h2 := pos_of_mul hp h1
    exact pos_of_mul k5 (L.1 (by omega))
  · have h1 := Int.mul_neg_of_pos_of_neg k5 h
    rw [e2] at h1
    have h2 := neg_of_mul hp h1
    exact neg_of_mul k5 (L.2.1 (by omega))
  · rw [h, Int.mul_zero] at e2
    rcases Int.mul_eq_zero.mp e2.symm with h1 | h1
    · omega
    · exact L.2.2 (by omega)
/-! from the law's own test -/
theorem eqp_pt (p q : Int × Int) : eqp p.1 p.2 q.1 q.2 = decide (p = q) := by
  unfold eqp
  rw [Bool.eq_iff_iff]
  simp only [Bool.and_eq_true, decide_eq_true_eq]
  exact ⟨fun h => Prod.ext h.1 h.2, fun h => by rw [h]; exact ⟨rfl, rfl⟩⟩
theorem sg_zero {v : Int} : sg v = 0 ↔ v = 0 := by unfold sg; split <;> (try split) <;> omega
theorem sg_opp {x y : Int} (h : opp x y) : ¬ 0 ≤ sg x * sg y := by
  rcases h with ⟨a, b⟩ | ⟨a, b⟩
  · rw [show sg x = -1 by unfold sg; rw [if_neg (by omega), if_pos a], show sg y = 1 by unfold sg; rw [if_pos b]]; decide
  · rw [show sg x = 1 by unfold sg; rw [if_pos a], show sg y = -1 by unfold sg; rw [if_neg (by omega), if_pos b]]; decide
theorem upon_bool {a b p : Int × Int} (ha : Grid a) (hb : Grid b) (hp : Grid p) (hab : col a ≤ col b) (h : Upon a b p) : uponB a.1 a.2 b.1 b.2 p.1 p.2 = true := by
  unfold Grid at ha hb hp
  obtain ⟨h1, h2⟩ := h
  have h3 : crs a.1 a.2 b.1 b.2 p.1 p.2 = 0 := h2
  unfold col at *
  unfold uponB lexle
  rw [h3]
  simp only [Bool.and_eq_true, decide_eq_true_eq, beq_iff_eq]
  refine ⟨⟨by omega, by omega⟩, rfl⟩
theorem apartF_true {c0 c1 d0 d1 e0 e1 : Bool} {u v : Int} (h : apartF c0 c1 d0 d1 e0 e1 u v = true) :
    ¬ (c0 = true ∧ c1 = true) ∧ d0 = false ∧ d1 = false ∧ e0 = false ∧ e1 = false ∧ (c0 = false → c1 = false → 0 ≤ u ∨ 0 ≤ v) := by
  unfold apartF at h
  by_cases h1 : 1 < cnt2 c0 c1
  · rw [if_pos h1] at h; cases h
  · rw [if_neg h1] at h
    cases d0
    · cases d1
      · cases e0
        · cases e1
          · refine ⟨fun z => h1 ?_, rfl, rfl, rfl, rfl, fun z1 z2 => ?_⟩
            · rw [z.1, z.2]; decide
            · subst z1; subst z2
              simpa using h
          · cases h
        · cases h
      · cases h
    · cases h
theorem apart_of {a b c d : Int × Int} (ga : Grid a) (gb : Grid b) (gc : Grid c) (gd : Grid d) (hab : col a ≤ col b) (hcd : col c ≤ col d) (h : apS a b c d = true) : Apart a b c d := by
  unfold apS apartB at h
  simp only [eqp_pt] at h
  obtain ⟨h1, h2, h3, h4, h5, h6⟩ := apartF_true h
  simp only [decide_true, Bool.and_true] at h1 h2 h3 h4 h5 h6
  refine ⟨fun e => h1 ?_, fun e => h1 ?_, fun u => ?_, fun u => ?_, fun u => ?_, fun u => ?_, fun n1 n2 n3 n4 o1 o2 => ?_⟩
  · rw [e.1, e.2]; simp
  · rw [e.1, e.2]; simp
  · rw [upon_bool gc gd ga hcd u, Bool.and_true] at h2
    by_cases z1 : c = a
    · exact .inl z1.symm
    · by_cases z2 : d = a
      · exact .inr z2.symm
      · by_cases z3 : b = a
        · subst z3; simp [z1, z2] at h2
        · simp [z1, z2, z3] at h2
  · rw [upon_bool gc gd gb hcd u, Bool.and_true] at h3
    by_cases z1 : c = b
    · exact .inl z1.symm
    · by_cases z2 : d = b
      · exact .inr z2.symm
      · by_cases z3 : a = b
        · subst z3; simp [z1, z2] at h3
        · simp [z1, z2, z3] at h3
  · rw [upon_bool ga gb gc hab u, Bool.and_true] at h4
    by_cases z1 : a = c
    · exact .inl z1.symm
    · by_cases z2 : b = c
      · exact .inr z2.symm
      · simp [z1, z2] at h4
  · rw [upon_bool ga gb gd hab u, Bool.and_true] at h5
    by_cases z1 : a = d
    · exact .inl z1.symm
    · by_cases z2 : b = d
      · exact .inr z2.symm
      · simp [z1, z2] at h5
  · rcases h6 (by simp [n1.symm, n2.symm]) (by simp [n3.symm, n4.symm]) with h | h
    · exact sg_opp o1 h
    · exact sg_opp o2 h
theorem lex_col {p q : Int × Int} (hp : Grid p) (hq : Grid q) : lexlt p.1 p.2 q.1 q.2 = decide (col p < col q) := by
  unfold Grid at hp hq
  unfold lexlt col
  rw [decide_eq_decide]
  omega
theorem pair_apart {ps : List (Int × Int)} (hg : ∀ p ∈ ps, Grid p) {i j : Nat} (hi : i < ps.length) (hj : j < ps.length) (h : PairOk ps ps.length i j) :
    Apart (ptAt ps i) (ptAt ps ((i + 1) % ps.length : Nat)) (ptAt ps j) (ptAt ps ((j + 1) % ps.length : Nat)) := by
  have gi : Grid (ptAt ps i) := hg _ (ptAt_mem (by omega) (by omega))
  have gj : Grid (ptAt ps j) := hg _ (ptAt_mem (by omega) (by omega))
  have gi1 : Grid (ptAt ps ((i + 1) % ps.length : Nat)) := hg _ (ptAt_mem (by omega) (by have := Nat.mod_lt (i + 1) (show 0 < ps.length by omega); omega))
  have gj1 : Grid (ptAt ps ((j + 1) % ps.length : Nat)) := hg _ (ptAt_mem (by omega) (by have := Nat.mod_lt (j + 1) (show 0 < ps.length by omega); omega))
  have h := h.1
  unfold sdLo sdHi at h
  dsimp only at h
  rw [lex_col gi1 gi, lex_col gj1 gj] at h
  by_cases c1 : col (ptAt ps ((i + 1) % ps.length : Nat)) < col (ptAt ps i) <;> by_cases c2 : col (ptAt ps ((j + 1) % ps.length : Nat)) < col (ptAt ps j) <;> simp only [c1, c2, decide_true, decide_false, if_true, if_false, Bool.false_eq_true] at h
  · exact (apart_of gi1 gi gj1 gj (by omega) (by omega) h).swap.swap2
  · exact (apart_of gi1 gi gj gj1 (by omega) (by omega) h).swap
  · exact (apart_of gi gi1 gj1 gj (by omega) (by omega) h).swap2
  · exact apart_of gi gi1 gj gj1 (by omega) (by omega) h
def ring (ps : List (Int × Int)) (i : Int) : Int × Int := ptAt ps (wrap ps.length i : Nat)
theorem wrap_cast {n : Nat} (h : 0 < n) (k : Int) : (wrap n k : Int) = k % n := by
  unfold wrap
  have := Int.emod_nonneg k (b := (n : Int)) (by omega)
  omega
theorem wrap_eq {n : Nat} (h : 0 < n) {k : Int} {a : Nat} (ha : a < n) (hd : (n : Int) ∣ k - a) : wrap n k = a := by
  have := wrap_cast h k
  obtain ⟨c, hc⟩ := hd
  have h2 : k = a + n * c := by omega
  rw [h2, Int.add_mul_emod_self_left, Int.emod_eq_of_lt (by omega) (by omega)] at this
  rw [h2]
  omega
theorem wrap_dvd {n : Nat} (h : 0 < n) (k : Int) : (n : Int) ∣ k - wrap n k := by
  rw [wrap_cast h k]
  exact Int.dvd_self_sub_emod
theorem wrap_succ {n : Nat} (h : 0 < n) (k : Int) : wrap n (k + 1) = (wrap n k + 1) % n := by
  refine wrap_eq h (Nat.mod_lt _ h) ?_
  have h1 := wrap_dvd h k
  have h2 : (n : Int) ∣ ((wrap n k + 1 : Nat) : Int) - ((wrap n k + 1) % n : Nat) := by
    rw [Int.natCast_emod]
    exact Int.dvd_self_sub_emod
  have := Int.dvd_add h1 h2
  rwa [show k - (wrap n k : Int) + (((wrap n k + 1 : Nat) : Int) - ((wrap n k + 1) % n : Nat)) = k + 1 - ((wrap n k + 1) % n : Nat) by omega] at this
theorem wrap_cong {n : Nat} (h : 0 < n) {i j : Int} (hd : (n : Int) ∣ j - i) : wrap n i = wrap n j := by
  refine wrap_eq h (wrap_lt h) ?_
  have := Int.dvd_sub (wrap_dvd h j) hd
  rwa [show j - (wrap n j : Int) - (j - i) = i - wrap n j by omega] at this
theorem ptAt_inj {ps : List (Int × Int)} (hn : ps.Nodup) {a b : Nat} (ha : a < ps.length) (hb : b < ps.length) (h : ptAt ps a = ptAt ps b) : a = b := by
  unfold ptAt at h
  rw [Int.toNat_natCast, Int.toNat_natCast, List.getD_eq_getElem?_getD, List.getD_eq_getElem?_getD, List.getElem?_eq_getElem ha, List.getElem?_eq_getElem hb] at h
  exact (List.getElem_inj hn).mp h
theorem simple_good {ps : List (Int × Int)} (hg : ∀ p ∈ ps, Grid p) (hn : ps.Nodup) (hs : SimpleOk ps) : Good ps.length (ring ps) := by
  have n0 : 0 < ps.length := by have := hs.1; omega
  refine ⟨hs.1, fun i => ?_, fun i => at_grid hg rfl n0, fun i j h => ?_, fun i j h => ?_⟩
  · unfold ring
    rw [wrap_cong n0 (i := i) (j := i + ps.length) ⟨1, by omega⟩]
  · have := ptAt_inj hn (wrap_lt n0) (wrap_lt n0) h
    have := Int.dvd_sub (wrap_dvd n0 j) (wrap_dvd n0 i)
    rwa [show j - (wrap ps.length j : Int) - (i - wrap ps.length i) = j - i by omega] at this
  · unfold ring
    have hi := wrap_lt (k := i) n0
    have hj := wrap_lt (k := j) n0
    rw [wrap_succ n0, wrap_succ n0]
    have hne : wrap ps.length i ≠ wrap ps.length j := fun e => h (by
      have := Int.dvd_sub (wrap_dvd n0 j) (wrap_dvd n0 i)
      rwa [show j - (wrap ps.length j : Int) - (i - wrap ps.length i) = j - i by omega] at this)
    by_cases hlt : wrap ps.length i < wrap ps.length j
    · exact pair_apart hg hi hj (hs.2 _ hj _ hlt)
    · exact (pair_apart hg hj hi (hs.2 _ hi _ (by omega))).symm
theorem ptAt_get {ps : List (Int × Int)} {a : Nat} (h : a < ps.length) : ptAt ps a = ps[a] := by
  unfold ptAt
  rw [Int.toNat_natCast, List.getD_eq_getElem?_getD, List.getElem?_eq_getElem h]; rfl
theorem ring_rot {ps : List (Int × Int)} {f : Nat} (hf : f < ps.length) : ring (rot f ps) = fun i => ring ps (i + f) := by
  funext i
  have hl : (rot f ps).length = ps.length := (rot_perm f ps).length_eq
  have n0 : 0 < ps.length := by omega
  have hw := wrap_lt (k := i) n0
  unfold ring
  rw [hl, ptAt_get (by omega)]
  unfold rot
  have hd := wrap_dvd n0 i
  by_cases h : wrap ps.length i < ps.length - f
  · have e : wrap ps.length (i + f) = f + wrap ps.length i := wrap_eq n0 (by omega) (by rwa [show i + (f : Int) - ((f + wrap ps.length i : Nat) : Int) = i - wrap ps.length i by omega])
    rw [e, ptAt_get (by omega), List.getElem_append_left (by rw [List.length_drop]; omega), List.getElem_drop]
  · have e : wrap ps.length (i + f) = wrap ps.length i - (ps.length - f) := wrap_eq n0 (by omega) (by
      have := Int.dvd_add hd (Int.dvd_refl (ps.length : Int))
      rwa [show i - (wrap ps.length i : Int) + ps.length = i + (f : Int) - ((wrap ps.length i - (ps.length - f) : Nat) : Int) by omega] at this)
    rw [e, ptAt_get (by omega), List.getElem_append_right (by rw [List.length_drop]; omega), List.getElem_take]
    simp only [List.length_drop]
theorem ring_rev {ps : List (Int × Int)} (n0 : 0 < ps.length) : ring ps.reverse = fun i => ring ps (-1 - i) := by
  funext i
  have hw := wrap_lt (k := i) n0
  unfold ring
  rw [List.length_reverse, ptAt_get (by rw [List.length_reverse]; omega), List.getElem_reverse]
  have e : wrap ps.length (-1 - i) = ps.length - 1 - wrap ps.length i := wrap_eq n0 (by omega) (by
    have := Int.dvd_sub (Int.dvd_neg.mpr (wrap_dvd n0 i)) (Int.dvd_refl (ps.length : Int))
    rwa [show -(i - (wrap ps.length i : Int)) - ps.length = -1 - i - ((ps.length - 1 - wrap ps.length i : Nat) : Int) by omega] at this)
  rw [e, ptAt_get (by omega)]
theorem turn_len {ps qs : List (Int × Int)} (h : IsTurn ps qs) : qs.length = ps.length := by
  obtain ⟨f, _, rfl | rfl⟩ := h
  · exact (rot_perm f ps).length_eq
  · rw [List.length_reverse]; exact (rot_perm f ps).length_eq
theorem turn_good {ps qs : List (Int × Int)} (G : Good ps.length (ring ps)) (h : IsTurn ps qs) : Good qs.length (ring qs) := by
  rw [turn_len h]
  obtain ⟨f, hf, rfl | rfl⟩ := h
  · rw [ring_rot hf]; exact G.shift f
  · have hl : (rot f ps).length = ps.length := (rot_perm f ps).length_eq
    rw [ring_rev (by omega), ring_rot hf]
    have := (G.shift f).turn (-1)
    exact this
theorem sum_sm (f : Int → Int) : ∀ n : Nat, ((List.range n).map fun i : Nat => f i).sum = sm n f
  | 0 => rfl
  | n + 1 => by rw [List.range_succ, List.map_append, List.sum_append, sum_sm f n, sm]; simp
theorem ring_move {ps : List (Int × Int)} {a : Int} (n0 : 0 < ps.length) (k : Int) : ptAt (ps.map (move a)) (wrap ps.length k : Nat) = move a (ring ps k) := move_at (wrap_lt n0)
theorem law_final {ps qs : List (Int × Int)} {a : Int} {i : Nat} (hg : ∀ p ∈ ps, Grid p) (hn : ps.Nodup) (hs : SimpleOk ps) (ht : IsTurn ps qs) (hgq : ∀ p ∈ qs, Grid p) (hi : i < qs.length)
    (hmin : ∀ j < qs.length, lexlt (ptAt (qs.map (move a)) j).1 (ptAt (qs.map (move a)) j).2 (ptAt (qs.map (move a)) i).1 (ptAt (qs.map (move a)) i).2 = false) :
    orien (told (qs.map (move a)) qs.length i) = if 0 < ((List.range qs.length).map (sz qs qs.length)).sum then 192 else 186 := by
  have G := turn_good (simple_good hg hn hs) ht
  have n0 : 0 < qs.length := by omega
  have hm : ∀ j, col (ring qs ((i : Int) - 1 + 1)) ≤ col (ring qs j) := fun j => by
    have hw := wrap_lt (k := j) n0
    have h := hmin _ hw
    rw [move_at hw, move_at hi] at h
    have e : ring qs ((i : Int) - 1 + 1) = ptAt qs i := by
      unfold ring
      rw [wrap_eq n0 hi ⟨0, by omega⟩]
    have g1 : Grid (ptAt qs (wrap qs.length j : Nat)) := G.grid j
    have g2 : Grid (ptAt qs i) := hgq _ (ptAt_mem (by omega) (by omega))
    have h2 : lexlt (ptAt qs (wrap qs.length j : Nat)).1 (ptAt qs (wrap qs.length j : Nat)).2 (ptAt qs i).1 (ptAt qs i).2 = false := by
      rw [← h]
      unfold move lexlt
      rw [decide_eq_decide]
      dsimp only
      omega
    rw [lex_col g1 g2] at h2
    rw [e]
    have := of_decide_eq_false h2
    unfold ring
    omega
  have L := G.law hm
  have et : told (qs.map (move a)) qs.length i = tri (ring qs ((i : Int) - 1)) (ring qs ((i : Int) - 1 + 1)) (ring qs ((i : Int) - 1 + 1 + 1)) := by
    unfold told
    rw [ring_move n0, ring_move n0, ring_move n0]
    have e3 : ring qs (((i : Int) + 1).fmod qs.length) = ring qs ((i : Int) - 1 + 1 + 1) := by
      unfold ring
      rw [Int.fmod_eq_emod_of_nonneg _ (Int.natCast_nonneg _), show (i : Int) - 1 + 1 + 1 = i + 1 by omega]
      rw [wrap_cong n0 (i := ((i : Int) + 1) % qs.length) (j := (i : Int) + 1) Int.dvd_self_sub_emod]
    rw [e3, show (i : Int) - 1 + 1 = i by omega]
    unfold crsP crs tri move
    dsimp only
    congr 1 <;> congr 1 <;> omega
  have es : ((List.range qs.length).map (sz qs qs.length)).sum = sm qs.length (area2 (ring qs)) := by
    have hp : ∀ j, area2 (ring qs) (j + qs.length) = area2 (ring qs) j := fun j => by
      unfold area2
      rw [show j + (qs.length : Int) + 1 = j + 1 + qs.length by omega, G.per, G.per]
    rw [← sm_turn hp (-1), ← sum_sm]
    congr 1
    refine List.map_congr_left fun j _ => ?_
    unfold sz area2 ring
    rw [show (j : Int) + -1 + 1 = j by omega, show (j : Int) + -1 = j - 1 by omega]
  rw [et, es]
  rcases Int.lt_trichotomy (tri (ring qs ((i : Int) - 1)) (ring qs ((i : Int) - 1 + 1)) (ring qs ((i : Int) - 1 + 1 + 1))) 0 with h | h | h
  · rw [if_neg (by have := L.2.1 h; omega)]
    exact (ang_b (by omega) h).symm
  · exact absurd h L.2.2
  · rw [if_pos (L.1 h)]
    exact (ang_a h).symm
end Mine
end
section
open PySem PySem.W PyProof.Rows
set_option Elab.async false
set_option maxRecDepth 100000
set_option maxHeartbeats 8000000
namespace Mine
theorem pick_le (vs : List Value) (a b : Option Int) : (PySem.W.kms_pick vs a b).length ≤ vs.length := by
  unfold PySem.W.kms_pick
  exact ((List.take_sublist _ _).trans (List.drop_sublist _ _)).length_le
theorem pick_sum {vs : List Value} {a b c d : Option Int} (h : vs.length ≤ 7) : (PySem.W.kms_pick vs a b).length + (PySem.W.kms_pick vs c d).length ≤ sizeLine := by
  have h1 := pick_le vs a b
  have h2 := pick_le vs c d
  rw [sizeLine_eq]
  omega
local macro_rules | `(tactic| k_mem) => `(tactic| first | assumption | ((with_reducible refine' memR ?_); k_mem))
local macro_rules | `(tactic| k_all) => `(tactic| (refine' gt_ne ?ha; (case ha => assumption)))
local macro_rules | `(tactic| k_all) => `(tactic| (refine' all_ne ?ha ?hb; (case ha => assumption); (case hb => omega)))
theorem tri_simple : SimpleOk [(0, 0), (2, 0), (0, 1)] := by
  refine ⟨by decide, fun j hj i hi => ?_⟩
  have hj' : j < 3 := hj
  have h : (i = 0 ∧ j = 1) ∨ (i = 0 ∧ j = 2) ∨ (i = 1 ∧ j = 2) := by omega
  rcases h with ⟨rfl, rfl⟩ | ⟨rfl, rfl⟩ | ⟨rfl, rfl⟩ <;> exact ⟨by decide, by decide⟩
theorem tri_grid : ∀ p ∈ [((0 : Int), (0 : Int)), (2, 0), (0, 1)], Grid p := by
  intro p hp
  simp only [List.mem_cons, List.not_mem_nil, or_false] at hp
  rcases hp with rfl | rfl | rfl <;> exact ⟨by decide, by decide⟩
theorem nodup_snoc {ps : List (Int × Int)} {p : Int × Int} (h : ps.Nodup) (hp : ¬ p ∈ ps) : (ps ++ [p]).Nodup :=
  List.nodup_append.mpr ⟨h, by simp, fun a ha b hb e => by rw [List.mem_singleton.mp hb] at e; exact hp (e ▸ ha)⟩
local macro_rules | `(tactic| k_all) => `(tactic| (refine' gt_ne2 ?ha ?hb; (case ha => assumption); (case hb => omega)))
set_option pp.deepTerms false
set_option pp.maxSteps 3000
theorem t : PySem.Challenge.rw_ja0044_01.Holds := by
  k_with_none
  (k_with "exec For" => (with_reducible refine Mine.hold ?_))
  (k_with "eval IfExp" => ((fail_if_success (with_reducible show wpAny _ _ _ (WayP _ _ _ _ _) _ _)); (with_reducible show wpAny _ _ (eval (PySem.Expr.IfExp (PySem.Expr.Name (Str.ofString "script") _) _ _ _) _) _ _ _); (with_reducible refine Mine.hold ?_)))
  (k_with "subscriptTail Name Slice ref ref" => (k_here; (with_reducible show wpAny _ _ (subscriptTail _ (PySem.Expr.Slice _ _ none _) (Value.ref _) (Value.ref _)) _ _ _); k_dflt (refine' kms_slice_lit ?zW2F ?zW2N ?zW2l ?zW2p ?zW2q ?zW2e ?_ ?zW2s ?zW2t ?zW2z; (case zW2F => k_asm); (case zW2N => k_asm); (case zW2l => kmk_list); (case zW2p => kmk_part); (case zW2q => kmk_part); (case zW2e => exact rfl); (case zW2s => with_unfolding_all rfl); (case zW2t => kmk_pure); (case zW2z => first | kmk_size | (simp only [List.size_toArray, sizeLine_eq]; omega))); intro _ _ _ _ l9; (try k_lt l9); (try k_sweep); (try (revert l9; intro _))))
  (k_with "compareOp NotIn ref ref" => (k_here; k_dflt (refine' notIn_ring ?zW3k1 ?zW3k2 ?zW3k3 ?zW3k4 ?zW3k5 ?zW3k6 ?_; (case zW3k1 => k_asm); (case zW3k2 => k_mem); (case zW3k3 => assumption); (case zW3k4 => (intro e he; repeat (first | exact he | refine List.Mem.tail _ ?_))); (case zW3k5 => k_mem); (case zW3k6 => first | ktr_units | decide); k_whole)))
  (k_with "call builtin:list.append" => (k_here; (with_reducible show wpAny _ _ (call (Value.builtin _) [Value.ref _, _]) _ _ _); k_dflt (refine' append_K ?zW4k1 ?zW4k2 ?zW4k3 ?_ ?zW4z; (case zW4k1 => k_asm); (case zW4k2 => k_asm); (case zW4k3 => k_upd); (case zW4z => (simp only [sizeLine_eq]; omega)); k_whole); intro _ _ _; (try k_sweep)))
  (k_with "binaryOp Add ref ref" => (k_here; (with_reducible show wpAny _ _ (binaryOp _ (Value.ref _) (Value.ref _)) _ _ _); k_dflt (refine' kmk_add_lit ?zW5F ?zW5N ?zW5a ?zW5b ?zW5e ?_ ?zW5z; (case zW5F => k_asm); (case zW5N => k_asm); (case zW5a => kmk_list); (case zW5b => kmk_list); (case zW5e => exact rfl); (case zW5z => exact pick_sum (by omega))); intro _ _ _ _ l9; (try k_lt l9); (try k_sweep); (try (revert l9; intro _))))
  (k_with "subscriptTail Name Slice ref ref" => (k_here; (with_reducible show wpAny _ _ (subscriptTail _ (PySem.Expr.Slice none none (some _) _) (Value.ref _) (Value.ref _)) _ _ _); k_dflt (refine' krv_lit ?zW6F ?zW6N ?zW6l ?zW6k ?zW6e ?_ ?zW6s ?zW6t ?zW6z; (case zW6F => k_asm); (case zW6N => k_asm); (case zW6l => kmk_list); (case zW6k => exact IsPart.int _ _); (case zW6e => exact rfl); (case zW6s => with_unfolding_all rfl); (case zW6t => kmk_pure); (case zW6z => (simp only [List.size_toArray, sizeLine_eq]; omega))); intro _ _ _ _ l9; (try k_lt l9); (try k_sweep); (try (revert l9; intro _))))
  (k_with "TurnEndL" => (dsimp only [TurnEndL]))
  (k_with "exec If" => ((fail_if_success (with_reducible show wpAny _ _ _ (RingP _ _ _ _ _ _) _ _)); (with_reducible show wpAny _ _ (exec (Stmt.If (PySem.Expr.BoolOp _ _ _) _ _ _) _) _ _ _); (with_reducible refine Mine.hold ?_)))
  (k_with "exec If" => ((fail_if_success (with_reducible show wpAny _ _ _ (RingP _ _ _ _ _ _) _ _)); (with_reducible show wpAny _ _ (exec (Stmt.If (PySem.Expr.UnaryOp _ _ _) _ _ _) _) _ _ _); (with_reducible refine Mine.hold ?_)))
  (k_with "exec If" => ((fail_if_success (with_reducible show wpAny _ _ _ (RingP _ _ _ _ _ _) _ _)); (with_reducible show wpAny _ _ (exec (Stmt.If (PySem.Expr.Compare _ [CmpOp.Eq] _ _) _ _ _) _) _ _ _); (with_reducible refine Mine.hold ?_)))
  (k_with "eval ListComp" => (with_reducible refine Mine.hold ?_))
  (k_with "call builtin:len" => (k_here; k_dflt (refine' len_vs ?zW12k1 ?zW12k2 ?zW12k3 ?_; (case zW12k1 => k_asm); (case zW12k2 => k_mem); (case zW12k3 => omega))))
  (k_with "call ref" => (k_here; (with_reducible show wpAny _ _ (call (Value.ref 308) [Value.ref _]) _ _ _); k_dflt (refine' simple_top ?zW13k1 ?zW13k2 ?zW13k3 ?zW13k4 ?zW13k5 ?zW13k6 ?zW13k7 ?zW13k8 ?zW13kK ?_; (case zW13k1 => k_asm); (case zW13k2 => k_asm); (case zW13k3 => k_asm); (case zW13k4 => k_asm); (case zW13k5 => (exact Pts.mono (by assumption) (by intro e he; repeat (first | exact he | refine List.Mem.tail _ ?_)))); (case zW13k6 => assumption); (case zW13k7 => omega); (case zW13k8 => k_asm); (case zW13kK => exact rfl); k_whole); intro _ _ _ _ _ _; (try dsimp only)))
  (k_with "call ref" => (k_here; (with_reducible show wpAny _ _ (call (Value.ref 303) [Value.ref _]) _ _ _); k_dflt (refine' around_top ?zW14k1 ?zW14k2 ?zW14k3 ?zW14k4 ?zW14k5 ?zW14k6 ?zW14k7 ?zW14k8 ?zW14k9 ?zW14kK ?_; (case zW14k1 => k_asm); (case zW14k2 => k_asm); (case zW14k3 => k_asm); (case zW14k4 => k_asm); (case zW14k5 => (exact Pts.mono (by assumption) (by intro e he; repeat (first | exact he | refine List.Mem.tail _ ?_)))); (case zW14k6 => assumption); (case zW14k7 => omega); (case zW14k8 => omega); (case zW14k9 => k_asm); (case zW14kK => exact rfl); k_whole); intro _ _ _ _ _ _ _ _ _ _ _ _ _ _; (try dsimp only)))
  (k_with "call builtin:sum" => (k_here; (with_reducible show wpAny _ _ (call (Value.builtin "sum") [Value.ref _]) _ _ _); k_dflt (refine' sum_lst ?zW15k0 ?zW15k1 ?zW15k2 ?zW15k3 ?zW15k4 ?_; (case zW15k0 => with_unfolding_all rfl); (case zW15k1 => k_asm); (case zW15k2 => k_asm); (case zW15k3 => k_mem); (case zW15k4 => assumption); k_whole); intro _ _ _ _ _))
  (k_with "subscriptTail" => (k_here; (with_reducible show wpAny _ _ (subscriptTail _ _ (Value.ref _) (Value.int _ _)) _ _ _); k_dflt (refine' ring_item2 ?zW16k1 ?zW16k2 ?zW16k3 ?zW16k4 ?zW16k5 ?zW16k6 ?_ ?zW16k7; (case zW16k1 => k_asm); (case zW16k2 => k_mem); (case zW16k3 => assumption); (case zW16k4 => omega); (case zW16k5 => omega); (case zW16k6 => omega); (case zW16k7 => with_unfolding_all rfl); k_whole); intro _ _ _ _ _))
  (k_with "call ref" => (k_here; (with_reducible show wpAny _ _ (call (Value.ref 146) [Value.int _ _, Value.int _ _]) _ _ _); k_dflt (refine' make_top ?zW17k1 ?zW17k2 ?zW17k3 ?zW17k4 ?zW17k5 ?zW17kK ?_; (case zW17k1 => k_asm); (case zW17k2 => k_asm); (case zW17k3 => k_asm); (case zW17k4 => k_asm); (case zW17k5 => k_asm); (case zW17kK => exact rfl); k_whole); intro _ _ _ _ _ _ _ _; (try dsimp only)))
  (k_with "call ref" => (k_here; (with_reducible show wpAny _ _ (call (Value.ref 35) [Value.ref _, Value.ref _]) _ _ _); (with_reducible refine Mine.hold ?_)))
  (k_with "compareOp Is ref ref" => (k_here; refine wpAny_is_ref_self ?_))
  refine Mine.hd ?_
  w_strict k_go0
  all_goals try k_fold
  k_steps
  rename_i w s0 s1 mg mb G9 Y9 fa o9 pm cd doc ho9 hcd9 hg9 XM V9 T9 B9 TE9 TW9 ns hs9 hlay9 hL91 hr91 hl29 wa wb la vs wc hLs ra9 w19 r09 hI hr9 hc1 hc2 hD9 h1x tk1x oA oRi dA dRi X09 X T B F0 N0 l0
  unfold Hold
  refine way_step F0 N0 ?_ ?_
  · k_steps
    · exact ⟨_, _, _, _, rfl, by split <;> omega, rfl, by k_asm, by k_asm⟩
    · exact ⟨_, _, _, _, rfl, by decide, rfl, by k_asm, by k_asm⟩
  · intro wy tw h1 tk1 hw0 F1 N1
    k_steps
    rename_i _ Rg _ lR _ oR F2 N2 dR
    unfold Hold
    obtain ⟨M0, hM, F3⟩ : ∃ M0, M0 = _ ∧ Fr _ _ _ M0 := ⟨_, rfl, F2⟩
    clear F2
    obtain ⟨mid, hmid⟩ : ∃ mid, mid = PySem.W.kms_pick vs (some 1) (some 8) := ⟨_, rfl⟩
    refine for_list (h₀ := ghostOf s1.heap [(27, 23)]) (L := s1.heap.objs.size) mid (fun sl (c : StR) => (sl, listOf mid.toArray 0) :: (Rg, listOf c.bs c.nb) :: (s1.heap.objs.size + 1 + 1, oA) :: (s1.heap.objs.size + 1, oR) :: (23, tabObj #[]) :: c.add)
      (fun _ i c m => (∃ p q, m = mapB M0 p q) ∧ Pts c.add c.bs.toList c.ps ∧ (∀ p ∈ c.ps, Grid p) ∧ c.ps.Nodup ∧ c.bs.size ≤ i ∧ (∀ p ∈ c.add, @LT.lt Nat _ Rg p.1)) (by rfl) ?_
    subst hM
    k_steps
    rename_i Sl hS FS NS lS
    have NS2 : News (ghostOf s1.heap [(27, 23)]) s1.heap.objs.size hS ((Sl, listOf mid.toArray 0) :: (Rg, listOf #[] 0) :: (s1.heap.objs.size + 1 + 1, oA) :: (s1.heap.objs.size + 1, oR) :: (23, tabObj #[]) :: []) := by rw [hmid]; exact NS
    clear NS
    have hml : mid.length ≤ 7 := by rw [hmid]; exact pick_len7 vs
    refine ⟨Sl, 0, _, ⟨#[], 0, [], []⟩, rfl, (fun _ => .head _), by k_asm, NS2, ⟨mapB_init, .nil, (fun _ h => nomatch h), List.nodup_nil, Nat.le_refl _, (fun _ h => nomatch h)⟩, ?_, ?_⟩
    · rintro i ⟨bs, nb, add, ps⟩ mm I oI v h tk E' hv ⟨⟨p, q, rfl⟩, hpt, hg, hnd, hsz, hlt⟩ F9 N9 off
      have hil : i < mid.length := (List.getElem?_eq_some_iff.mp hv).1
      obtain ⟨kv, tv, rfl⟩ := pick_int hI (by rw [← hmid]; exact List.mem_of_getElem? hv)
      dsimp only [mapB] at F9; dsimp only at N9 hpt hg hnd hsz hlt; (try dsimp only); try k_fold
      simp only [LCg.Off1] at off
      k_steps
      · rename_i D9 _ l9 _ FT NT hin
        refine turn_nextL (⟨bs, nb, add, ps⟩ : StR) FT NT (fun p hp => .tail _ hp) (by simp only [LCg.Off1]; exact off) ⟨mapB_next, hpt, hg, hnd, Nat.le_succ_of_le hsz, hlt⟩
      · rename_i D9 _ l9 _ _ hin hx FT NT
        obtain ⟨ta, tb, NT'⟩ : ∃ ta tb, News (ghostOf s1.heap [(27, 23)]) s1.heap.objs.size hx ((D9, tup [.int ((if kv < 0 then -kv else kv).fmod 5) ta, .int (((if kv < 0 then -kv else kv).fdiv 5).fmod 5) tb] 0) :: (I, oI) :: (Sl, listOf mid.toArray 0) :: (Rg, listOf (bs.push (.ref D9)) (nb + 1)) :: (s1.heap.objs.size + 1 + 1, oA) :: (s1.heap.objs.size + 1, oR) :: (23, tabObj #[]) :: add) := ⟨_, _, NT⟩
        refine turn_nextL (⟨bs.push (.ref D9), nb + 1, (D9, tup [.int ((if kv < 0 then -kv else kv).fmod 5) ta, .int (((if kv < 0 then -kv else kv).fdiv 5).fmod 5) tb] 0) :: add, ps ++ [((if kv < 0 then -kv else kv).fmod 5, ((if kv < 0 then -kv else kv).fdiv 5).fmod 5)]⟩ : StR) FT NT' (fun p hp => ?_) ?_ ⟨mapB_next, ?_, ?_, ?_, ?_, ?_⟩
        · simp only [List.mem_cons] at hp ⊢
          rcases hp with hp | hp | hp | hp | hp | hp | hp | hp <;> simp [hp]
        · simp only [LCg.Off1]
          exact ⟨off.1, off.2.1, off.2.2.1, off.2.2.2.1, off.2.2.2.2.1, Nat.ne_of_gt l9.1, off.2.2.2.2.2⟩
        · show Pts _ (bs.push (.ref D9)).toList _
          rw [Array.toList_push]
          exact (hpt.mono fun e he => .tail _ he).append (.cons ⟨D9, ta, tb, 0, rfl, .head _⟩ .nil)
        · intro p hp
          rcases List.mem_append.mp hp with hp | hp
          · exact hg p hp
          · rw [List.mem_singleton.mp hp]; exact ⟨fm5 _, fm5 _⟩
        · exact nodup_snoc hnd hin
        · show (bs.push _).size ≤ i + 1
          rw [Array.size_push]; omega
        · intro p hp
          rcases List.mem_cons.mp hp with rfl | hp
          · exact l9.2.2.1
          · exact hlt p hp
    · rintro ⟨bs, nb, add, ps⟩ mm h tk ⟨⟨p, q, rfl⟩, hpt, hg, hnd, hsz, hlt⟩ F9 N9
      obtain ⟨M1, hM1, F10⟩ : ∃ M1, M1 = _ ∧ Fr _ _ _ M1 := ⟨_, rfl, F9⟩
      clear F9
      dsimp only at N9 hpt hg hnd hsz hlt; (try dsimp only); try k_fold
      k_steps
      unfold Hold
      obtain ⟨vs1, hvs1⟩ : ∃ vs1, vs1 = bs.toList := ⟨_, rfl⟩
      have N10 : News (ghostOf s1.heap [(27, 23)]) s1.heap.objs.size h ((Rg, listOf vs1.toArray nb) :: (s1.heap.objs.size + 1 + 1, oA) :: (s1.heap.objs.size + 1, oR) :: (23, tabObj #[]) :: add) := fun p hp => N9 p (.tail _ (by rw [hvs1] at hp; exact hp))
      have hv7 : vs1.length ≤ 7 := by rw [hvs1, Array.length_toList]; omega
      rw [← hvs1] at hpt
      have hlt2 : ∀ p ∈ add, @LT.lt Nat _ (s1.heap.objs.size + 1 + 1) p.1 := fun p hp => Nat.lt_trans lR.1 (hlt p hp)
      clear N9 NS2 FS lS
      refine ring_if (g := ghostOf s1.heap [(27, 23)]) (L := s1.heap.objs.size) (M1 := M1) (oA := oA) (P := fun _ => True) ?_ ?_
      · k_steps
        · exact ⟨_, _, rfl, Rg, vs1, nb, ps, add, oR, by k_asm, by k_asm, dR, hpt, hg, hnd, hv7, lR.1, hlt2, trivial⟩
        · rename_i b9 _ _ _ _ _ D9 ws9 qs9 c9 _ _ ll9 lr9 hp9 hg9 hl9 hpm9 _ oT FT NT dT
          have hq9 : Pts add ws9 qs9 := ((hp9.strip (fun x n e => by rw [dA] at e; cases e)).strip (fun x n e => by rw [dR] at e; cases e)).strip (fun x n e => by cases e)
          refine ⟨_, _, rfl, D9, ws9, c9, qs9, add, oT, FT, (fun p hp => NT p ?_), dT, hq9, hg9, hpm9.nodup_iff.mpr hnd, by omega, Nat.lt_trans lR.1 ll9, hlt2, trivial⟩
          rcases List.mem_cons.mp hp with rfl | hp
          · exact .head _
          · exact .tail _ (.tail _ hp)
        · exact ⟨_, _, rfl, Rg, vs1, nb, ps, add, oR, by k_asm, by k_asm, dR, hpt, hg, hnd, hv7, lR.1, hlt2, trivial⟩
      · rintro h2 tk2 ⟨R2, vs2, n2, qs2, add2, oR2, F20, N20, dR2, hpt2, hg2, hnd2, hv72, hR2, hlt22, -⟩
        clear N10 F10
        (try dsimp only); try k_fold
        k_steps
        unfold Hold
        refine ring_if (g := ghostOf s1.heap [(27, 23)]) (L := s1.heap.objs.size) (M1 := M1) (oA := oA) (P := SimpleOk) ?_ ?_
        · k_steps
          · rename_i b9 h9 tk9 hs9 F9 N9 hb
            exact ⟨_, _, rfl, R2, vs2, n2, qs2, add2, oR2, F9, N9, dR2, hpt2, hg2, hnd2, hv72, hR2, hlt22, hs9 hb⟩
          · rename_i _ _ _ _ _ Da _ l1 Db _ l2 Dc _ l3 Rt _ l4 _ oT FT NT dT
            obtain ⟨ta, tb, tc, td, te, tf, NT'⟩ : ∃ ta tb tc td te tf, News (ghostOf s1.heap [(27, 23)]) s1.heap.objs.size _ ((Rt, listOf (List.toArray [Value.ref Da, Value.ref Db, Value.ref Dc]) 0) :: (Dc, tup [.int 0 ta, .int 1 tb] 0) :: (Db, tup [.int 2 tc, .int 0 td] 0) :: (Da, tup [.int 0 te, .int 0 tf] 0) :: (R2, listOf vs2.toArray n2) :: (s1.heap.objs.size + 1 + 1, oA) :: (s1.heap.objs.size + 1, oT) :: (23, tabObj #[]) :: add2) := ⟨_, _, _, _, _, _, NT⟩
            refine ⟨_, _, rfl, Rt, [Value.ref Da, Value.ref Db, Value.ref Dc], 0, [(0, 0), (2, 0), (0, 1)], (Dc, tup [.int 0 ta, .int 1 tb] 0) :: (Db, tup [.int 2 tc, .int 0 td] 0) :: (Da, tup [.int 0 te, .int 0 tf] 0) :: add2, oT, FT, (fun p hp => NT' p ?_), dT, ?_, tri_grid, by decide, (by simp), ?_, ?_, tri_simple⟩
            · simp only [List.mem_cons] at hp ⊢
              rcases hp with hp | hp | hp | hp | hp | hp | hp | hp <;> simp [hp]
            · exact .cons ⟨Da, te, tf, 0, rfl, by simp⟩ (.cons ⟨Db, tc, td, 0, rfl, by simp⟩ (.cons ⟨Dc, ta, tb, 0, rfl, by simp⟩ .nil))
            · omega
            · intro p hp
              simp only [List.mem_cons] at hp
              rcases hp with rfl | rfl | rfl | hp
              · show @LT.lt Nat _ _ Dc; omega
              · show @LT.lt Nat _ _ Db; omega
              · show @LT.lt Nat _ _ Da; omega
              · exact hlt22 p hp
        · rintro h3 tk3 ⟨R3, vs3, n3, qs3, add3, oR3, F30, N30, dR3, hpt3, hg3, hnd3, hv73, hR3, hlt33, hsim⟩
          have h33 : 3 ≤ vs3.length := by have := hsim.1; have := hpt3.length; omega
          clear F20 N20
          subst hM1
          dsimp only [mapB] at F30
          (try dsimp only); try k_fold
          k_steps
          rename_i _ Da _ la Db _ lb Dc _ lc _ oC FC NC dC
          unfold Hold
          obtain ⟨M2, hM2, FC2⟩ : ∃ M2, M2 = _ ∧ Fr _ _ _ M2 := ⟨_, rfl, FC⟩
          clear FC
          have hk0 : 0 ≤ (wy.fdiv 2).fmod (vs3.length : Int) := Int.fmod_nonneg_of_pos _ (by omega)
          have hk1 : (wy.fdiv 2).fmod (vs3.length : Int) < vs3.length := fm_hi (by omega)
          have ePick := pick_rot hk0 hk1
          obtain ⟨f, hf⟩ : ∃ f, f = ((wy.fdiv 2).fmod (vs3.length : Int)).toNat := ⟨_, rfl⟩
          have hfl : f < vs3.length := by omega
          rw [← hf] at ePick
          obtain ⟨vs4, hvs4⟩ : ∃ vs4, vs4 = vs3.drop f ++ vs3.take f := ⟨_, rfl⟩
          have NC2 : News (ghostOf s1.heap [(27, 23)]) s1.heap.objs.size _ ((Dc, listOf vs4.toArray 0) :: (s1.heap.objs.size + 1 + 1, oA) :: (s1.heap.objs.size + 1, oC) :: (23, tabObj #[]) :: add3) := fun p hp => NC p (by
            rw [ePick, ← hvs4]
            rcases List.mem_cons.mp hp with rfl | hp
            · exact .head _
            · exact .tail _ (.tail _ (.tail _ (.tail _ hp))))
          have hpt4 : Pts add3 vs4 (rot f qs3) := by rw [hvs4]; exact (hpt3.dropP f).append (hpt3.takeP f)
          have hv4 : vs4.length = vs3.length := by rw [hvs4, List.length_append, List.length_drop, List.length_take]; omega
          have hl3 := hpt3.length
          have hr0 := rot_perm f qs3
          have hg4 : ∀ p ∈ rot f qs3, Grid p := fun p hp => hg3 p (hr0.mem_iff.mp hp)
          have hnd4 := hr0.nodup_iff.mpr hnd3
          have hRc : @LT.lt Nat _ (s1.heap.objs.size + 1 + 1) Dc := by omega
          clear NC ePick
          refine ring_if (g := ghostOf s1.heap [(27, 23)]) (L := s1.heap.objs.size) (M1 := M2) (oA := oA) (P := IsTurn qs3) ?_ ?_
          · subst hM2
            k_steps
            · rename_i a1 tkx D9 h9x l9 hx ox FX NX dX
              refine ⟨_, _, rfl, D9, vs4.reverse, 0, (rot f qs3).reverse, add3, ox, FX, (fun p hp => NX p ?_), dX, hpt4.rev, (fun p hp => hg4 p (List.mem_reverse.mp hp)), (List.reverse_perm (rot f qs3)).nodup_iff.mpr hnd4, (by rw [List.length_reverse]; omega), l9.2.1, hlt33, ⟨f, by omega, .inr rfl⟩⟩
              rcases List.mem_cons.mp hp with rfl | hp
              · exact .head _
              · exact .tail _ (.tail _ hp)
            · exact ⟨_, _, rfl, Dc, vs4, 0, rot f qs3, add3, oC, FC2, NC2, dC, hpt4, hg4, hnd4, by omega, hRc, hlt33, ⟨f, by omega, .inl rfl⟩⟩
          · rintro h5 tk5 ⟨R5, vs5, n5, qs5, add5, oR5, F50, N50, dR5, hpt5, hg5, hnd5, hv75, hR5, hlt55, hturn⟩
            (try clear NC2); (try clear FC2)
            subst hM2
            (try dsimp only); try k_fold
            k_steps
            rename_i h6 oW F6 N6 dW
            unfold Hold
            obtain ⟨aw, tw2, dW2⟩ : ∃ aw t, oW.data = .cell (some (.int aw t)) := ⟨_, _, dW⟩
            clear dW
            refine comp_range vs5.length (SizeInv ((R5, listOf vs5.toArray n5) :: (s1.heap.objs.size + 1 + 1, oW) :: (s1.heap.objs.size + 1, oR5) :: (23, tabObj #[]) :: add5 : List (Addr × Obj)) qs5 vs5.length) (by k_asm) (by with_unfolding_all rfl) (by decide) (by rfl) (by decide) (by rfl) (by rfl) ?_
            k_steps
            refine ⟨_, ⟨_, _, _, _, rfl, by assumption⟩, by omega, by k_asm, by k_asm, ⟨rfl, .nil⟩, ?_, ?_⟩
            · intro i ys nw v I oI C oC D m₂ h tk E' hi hl hI hP hC hx F9 N9 off ne
              obtain ⟨rfl, hints⟩ := hI
              obtain ⟨t, rfl⟩ := hP
              obtain ⟨⟨g1, g2⟩, g3, g4⟩ := at_grid (k := (i : Int) - 1) (n := vs5.length) hg5 hpt5.length (by omega)
              obtain ⟨⟨g5, g6⟩, g7, g8⟩ := at_grid (k := (i : Int)) (n := vs5.length) hg5 hpt5.length (by omega)
              k_steps
              exact size_elem (by k_asm) (by k_asm) off hints rfl
            · intro ys nw D h tk hyl hI F9 N9 o9
              obtain ⟨rfl, hints⟩ := hI
              (try dsimp only); try k_fold
              k_steps
              rename_i h7 F7 N7
              unfold Hold
              have N8 : News (ghostOf s1.heap [(27, 23)]) s1.heap.objs.size h7 ((R5, listOf vs5.toArray n5) :: (s1.heap.objs.size + 1 + 1, oW) :: (s1.heap.objs.size + 1, oR5) :: (23, tabObj #[]) :: add5) := fun p hp => N7 p (.tail _ hp)
              clear N7 o9
              refine comp_list vs5 (MoveInv (s1.heap.objs.size + 1 + 1) ((R5, listOf vs5.toArray n5) :: (s1.heap.objs.size + 1 + 1, oW) :: (s1.heap.objs.size + 1, oR5) :: (23, tabObj #[]) :: add5 : List (Addr × Obj)) qs5 aw) R5 n5 (by k_asm) (fun _ _ _ ⟨_, e, _⟩ => e ▸ List.mem_append_right _ (.head _)) (by with_unfolding_all rfl) (by decide) (by rfl) (by decide) (by rfl) (by rfl) ?_
              k_steps
              refine ⟨_, rfl, by omega, by k_asm, by k_asm, ⟨[], rfl, (fun _ h => nomatch h), rfl, fun k h => absurd h (Nat.not_lt_zero k)⟩, ?_, ?_⟩
              · intro i zs nw v I oI C oC D m₂ h tk E' hi hl hI hP hC hx F9 N9 off ne
                obtain ⟨ad7, rfl, had7, hl7, hs7⟩ := hI
                obtain ⟨v', hv', a', t', u', k', rfl, ha'⟩ := hpt5.get (i := i) (by rw [← hpt5.length]; exact hi)
                obtain rfl : v = .ref a' := by rw [hP] at hv'; exact Option.some.inj hv'
                have ea : qs5[i]'(by rw [← hpt5.length]; exact hi) = ptAt qs5 i := by unfold ptAt; rw [Int.toNat_natCast, List.getD_eq_getElem?_getD, List.getElem?_eq_getElem (by rw [← hpt5.length]; exact hi)]; rfl
                rw [ea] at ha'
                k_steps
                rename_i Dp dxp hp9 tkp FP NP lP lP8
                exact move_elem FP NP (fun p hp => hp) off (lP _ (.head _)) (lP _ (.tail _ (.head _))) (lP _ (.tail _ (.tail _ (.head _)))) (lP (s1.heap.objs.size + 1 + 1, oW) (.tail _ (.tail _ (.tail _ (List.mem_append_right _ (.tail _ (.head _))))))) lP8 had7 hl7 hs7 rfl rfl
              · intro zs nw D h tk hzl hI F9 N9 o9
                obtain ⟨ad7, rfl, had7, hl7, hs7⟩ := hI
                (try dsimp only); try k_fold
                k_steps
                rename_i xC dC hC1 lC1 lC2 gI LI hI1 BI XI TI tkI hI3 FI NI TcI kXI hI2 xX dX hX lX1 lX2 qM hM FM NM lM
                unfold Hold
                have hD23 : @Ne Nat D 23 := (Off1.mem o9 (23, tabObj #[]) (List.mem_append_right _ (by simp))).symm
                have e5 : vs5.length = qs5.length := hpt5.length
                have e53 : qs5.length = qs3.length := turn_len hturn
                have l23 : @LT.lt Nat _ 23 dC := ktn_ltOf lC1.2 (23, tabObj #[]) (List.mem_append_right _ (by simp))
                obtain ⟨tv, NM2⟩ : ∃ tv, News (ghostOf s1.heap [(27, 23)]) s1.heap.objs.size hM ((qM, methodObj (Value.ref 263) (Value.ref xX)) :: (xX, instObj 273 dX) :: (dX, dictOf [] 0) :: (xC, instObj 217 dC) :: (dC, dictOf [⟨PyData.keyHash w.params (Str.ofString "vertices"), .str (Str.ofString "vertices") tv, .ref D⟩] 1) :: (D, LCg.lst zs) :: (ad7 ++ (R5, listOf vs5.toArray n5) :: (s1.heap.objs.size + 1 + 1, oW) :: (s1.heap.objs.size + 1, oR5) :: (23, tabObj #[]) :: add5)) := ⟨_, NM⟩
                refine contour_top (hs := PyData.keyHash w.params (Str.ofString "vertices")) (tk := tv) (kk := 1) (rest := (qM, methodObj (Value.ref 263) (Value.ref xX)) :: (xC, instObj 217 dC) :: (dC, dictOf [⟨PyData.keyHash w.params (Str.ofString "vertices"), .str (Str.ofString "vertices") tv, .ref D⟩] 1) :: ad7) (ps := qs5.map (move aw)) (vs := zs) (n := zs.length) (l := D) (by k_asm) FM (by k_asm) codeHd (fun p hp => NM2 p ?_) hD23 ?_ (.tail _ (.head _)) (.tail _ (.tail _ (.head _))) (.head _) (move_pns (by have := hpt5.length; omega) (by have := hpt5.length; rw [← this]; exact hs7) (fun e he => .tail _ (.tail _ (.tail _ he)))) (move_near hg5) (by rw [move_len]; have := hpt5.length; omega) (by omega) (by omega) (by k_asm) rfl ?_
                · simp only [List.mem_cons, List.mem_append] at hp ⊢
                  rcases hp with hp | hp | hp | hp | hp | hp <;> simp [hp]
                · intro p hp
                  simp only [List.mem_cons] at hp
                  rcases hp with rfl | rfl | rfl | hp
                  · show @LT.lt Nat _ 23 qM; omega
                  · show @LT.lt Nat _ 23 xC; omega
                  · exact l23
                  · exact Nat.lt_trans (Nat.lt_trans l0 (Nat.lt_succ_of_lt (Nat.lt_succ_self _))) (had7 p hp)
                · intro i9 tb9 h9 tk9 hi9 hmin FE NE
                  have key : orien (told (qs5.map (move aw)) zs.length i9) = if 0 < (List.map (sz qs5 vs5.length) (List.range vs5.length)).sum then 192 else 186 := by
                    rw [show zs.length = qs5.length by omega, e5]
                    exact law_final hg3 hnd3 hsim hturn hg5 (by omega) (fun j hj => hmin j (by omega))
                  clear NM NM2 FM NI FI
                  rw [key]
                  by_cases hsz : 0 < (List.map (sz qs5 vs5.length) (List.range vs5.length)).sum
                  · rw [if_pos hsz]
                    (try dsimp only); try k_fold
                    k_steps
                  · rw [if_neg hsz]
                    (try dsimp only); try k_fold
                    k_steps
end Mine
end
theorem PySem.Challenge.cw_ja0044_01_holds : PySem.Challenge.rw_ja0044_01.Holds := by
  exact Mine.t
