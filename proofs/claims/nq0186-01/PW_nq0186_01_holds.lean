import PyProof.Rows.All
import Wide.All
import OpenK.AllK
import Wide.FinOn
import Lean
import PySem.Challenge.RW_nq0186_01
open PySem PySem.W PySem.Calls PyProof.Rows
set_option Elab.async false
set_option maxRecDepth 100000
set_option maxHeartbeats 0
set_option linter.unusedVariables false
set_option linter.unusedSimpArgs false
local macro_rules | `(tactic| walk_at "exec If") => `(tactic| refine wpAny_If ?_)

/-! part Own -/
namespace Mine
noncomputable abbrev pg0 : Program := PySem.Challenge.rw_nq0186_01.row.toRowW.prog
def partsOf : Option Stmt → Option (Arguments × List Stmt × Scope)
  | some (.FunctionDef _ p b _ _ _ sc _ _ _) => some (p, b, sc)
  | _ => none
def bodyIn : Option Stmt → List Stmt
  | some (.ClassDef _ _ _ b ..) => b
  | _ => []
noncomputable def fnAt (i : Nat) : Option (Arguments × List Stmt × Scope) := partsOf pg0.main.body[i]?
noncomputable def methAt (i j : Nat) : Option (Arguments × List Stmt × Scope) := partsOf (bodyIn pg0.main.body[i]?)[j]?
noncomputable abbrev f46 : {x : Arguments × List Stmt × Scope // fnAt 3 = some x} := ⟨_, by conv => lhs; whnf⟩
noncomputable abbrev f60 : {x : Arguments × List Stmt × Scope // fnAt 6 = some x} := ⟨_, by conv => lhs; whnf⟩
noncomputable abbrev f87 : {x : Arguments × List Stmt × Scope // methAt 8 1 = some x} := ⟨_, by conv => lhs; whnf⟩
noncomputable abbrev f364 : {x : Arguments × List Stmt × Scope // methAt 12 1 = some x} := ⟨_, by conv => lhs; whnf⟩
noncomputable abbrev f371 : {x : Arguments × List Stmt × Scope // methAt 12 2 = some x} := ⟨_, by conv => lhs; whnf⟩
noncomputable abbrev f378 : {x : Arguments × List Stmt × Scope // methAt 12 3 = some x} := ⟨_, by conv => lhs; whnf⟩
noncomputable abbrev f540 : {x : Arguments × List Stmt × Scope // methAt 12 25 = some x} := ⟨_, by conv => lhs; whnf⟩
noncomputable abbrev f653 : {x : Arguments × List Stmt × Scope // methAt 21 0 = some x} := ⟨_, by conv => lhs; whnf⟩
noncomputable abbrev f660 : {x : Arguments × List Stmt × Scope // methAt 21 1 = some x} := ⟨_, by conv => lhs; whnf⟩
noncomputable abbrev f690 : {x : Arguments × List Stmt × Scope // methAt 21 5 = some x} := ⟨_, by conv => lhs; whnf⟩
noncomputable abbrev f697 : {x : Arguments × List Stmt × Scope // methAt 21 6 = some x} := ⟨_, by conv => lhs; whnf⟩
noncomputable abbrev f719 : {x : Arguments × List Stmt × Scope // methAt 21 9 = some x} := ⟨_, by conv => lhs; whnf⟩
noncomputable abbrev f726 : {x : Arguments × List Stmt × Scope // methAt 21 10 = some x} := ⟨_, by conv => lhs; whnf⟩
noncomputable abbrev f741 : {x : Arguments × List Stmt × Scope // fnAt 22 = some x} := ⟨_, by conv => lhs; whnf⟩
noncomputable abbrev f748 : {x : Arguments × List Stmt × Scope // fnAt 24 = some x} := ⟨_, by conv => lhs; whnf⟩
noncomputable abbrev f753 : {x : Arguments × List Stmt × Scope // fnAt 25 = some x} := ⟨_, by conv => lhs; whnf⟩
noncomputable abbrev f758 : {x : Arguments × List Stmt × Scope // fnAt 26 = some x} := ⟨_, by conv => lhs; whnf⟩
noncomputable abbrev f765 : {x : Arguments × List Stmt × Scope // fnAt 27 = some x} := ⟨_, by conv => lhs; whnf⟩
noncomputable abbrev f772 : {x : Arguments × List Stmt × Scope // fnAt 28 = some x} := ⟨_, by conv => lhs; whnf⟩
noncomputable abbrev f779 : {x : Arguments × List Stmt × Scope // fnAt 29 = some x} := ⟨_, by conv => lhs; whnf⟩
noncomputable abbrev f784 : {x : Arguments × List Stmt × Scope // fnAt 30 = some x} := ⟨_, by conv => lhs; whnf⟩
noncomputable abbrev f789 : {x : Arguments × List Stmt × Scope // fnAt 31 = some x} := ⟨_, by conv => lhs; whnf⟩
noncomputable abbrev f794 : {x : Arguments × List Stmt × Scope // fnAt 32 = some x} := ⟨_, by conv => lhs; whnf⟩
noncomputable def hd.heap_39 (P : Params) : Frag :=
  (nat_lit 2, Obj.mk Value.none none (Data.dict #[DictEntry.mk (PyData.keyHash P (Str.ofString "\x69mport.loaded._collections")) (Value.str (Str.ofString "\x69mport.loaded._collections") 185) (Value.bool true), DictEntry.mk (PyData.keyHash P (Str.ofString "class._frozen_importlib.BuiltinImporter")) (Value.str (Str.ofString "class._frozen_importlib.BuiltinImporter") 187) (Value.ref 15), DictEntry.mk (PyData.keyHash P (Str.ofString "watched.\x69mport")) (Value.str (Str.ofString "watched.\x69mport") 208) (Value.ref 19), DictEntry.mk (PyData.keyHash P (Str.ofString "class._frozen_importlib.ModuleSpec")) (Value.str (Str.ofString "class._frozen_importlib.ModuleSpec") 218) (Value.ref 23), DictEntry.mk (PyData.keyHash P (Str.ofString "sys.modules.booked-epoch")) (Value.str (Str.ofString "sys.modules.booked-epoch") 247) (Value.int 3 0), DictEntry.mk (PyData.keyHash P (Str.ofString "sys.modules.landed._collections")) (Value.str (Str.ofString "sys.modules.landed._collections") 248) (Value.bool true), DictEntry.mk (PyData.keyHash P (Str.ofString "\x69mport.later-laid._collections")) (Value.str (Str.ofString "\x69mport.later-laid._collections") 263) (Value.bool true), DictEntry.mk (PyData.keyHash P (Str.ofString "watched.library")) (Value.str (Str.ofString "watched.library") 265) (Value.ref 28), DictEntry.mk (PyData.keyHash P (Str.ofString "watched.library-objects")) (Value.str (Str.ofString "watched.library-objects") 0) (Value.str (Str.ofString "\x0d") 0), DictEntry.mk (PyData.keyHash P (Str.ofString "watched.library-deep._collections")) (Value.str (Str.ofString "watched.library-deep._collections") 266) (Value.str (Str.ofString "\x04\x00\x00\x0c\x04\x00\x00\x0c\x04\x00\x00\x03\x04\x00\x00\x0c\x08\x04dict\x02") 0), DictEntry.mk (PyData.keyHash P (Str.ofString "type.__subclasses__.OSError.0")) (Value.str (Str.ofString "type.__subclasses__.OSError.0") 331) (Value.int 70 0), DictEntry.mk (PyData.keyHash P (Str.ofString "type.__subclasses__.OSError.n")) (Value.str (Str.ofString "type.__subclasses__.OSError.n") 332) (Value.int 1 0)] 12) #[]) ::
  (nat_lit 3, Obj.mk (Value.type "dict") none (Data.dict #[DictEntry.mk (PyData.keyHash P (Str.ofString "__name__")) (Value.str (Str.ofString "__name__") 165) (Value.str (Str.ofString "law_nq0186_01") 1161), DictEntry.mk (PyData.keyHash P (Str.ofString "__doc__")) (Value.str (Str.ofString "__doc__") 166) Value.none, DictEntry.mk (PyData.keyHash P (Str.ofString "__package__")) (Value.str (Str.ofString "__package__") 167) Value.none, DictEntry.mk (PyData.keyHash P (Str.ofString "__loader__")) (Value.str (Str.ofString "__loader__") 168) (Value.builtin "__main__.__loader__#\x6fpaque"), DictEntry.mk (PyData.keyHash P (Str.ofString "__spec__")) (Value.str (Str.ofString "__spec__") 169) Value.none, DictEntry.mk (PyData.keyHash P (Str.ofString "__annotations__")) (Value.str (Str.ofString "__annotations__") 170) (Value.ref 6), DictEntry.mk (PyData.keyHash P (Str.ofString "__builtins__")) (Value.str (Str.ofString "__builtins__") 171) (Value.ref 4), DictEntry.mk (PyData.keyHash P (Str.ofString "__file__")) (Value.str (Str.ofString "__file__") 173) (Value.str (Str.ofString "/claim/cut.py") 172), DictEntry.mk (PyData.keyHash P (Str.ofString "__cached__")) (Value.str (Str.ofString "__cached__") 174) Value.none, DictEntry.mk (PyData.keyHash P (Str.ofString "deque")) (Value.str (Str.ofString "deque") 272) (Value.type "collections.deque"), DictEntry.mk (PyData.keyHash P (Str.ofString "_wall")) (Value.str (Str.ofString "_wall") 285) (Value.ref 39), DictEntry.mk (PyData.keyHash P (Str.ofString "strip_quotes")) (Value.str (Str.ofString "strip_quotes") 294) (Value.ref 46), DictEntry.mk (PyData.keyHash P (Str.ofString "_whence")) (Value.str (Str.ofString "_whence") 304) (Value.ref 53), DictEntry.mk (PyData.keyHash P (Str.ofString "_index")) (Value.str (Str.ofString "_index") 312) (Value.ref 60), DictEntry.mk (PyData.keyHash P (Str.ofString "UnsupportedOperation")) (Value.str (Str.ofString "UnsupportedOperation") 334) (Value.ref 70), DictEntry.mk (PyData.keyHash P (Str.ofString "IOBase")) (Value.str (Str.ofString "IOBase") 366) (Value.ref 90), DictEntry.mk (PyData.keyHash P (Str.ofString "BufferedIOBase")) (Value.str (Str.ofString "BufferedIOBase") 384) (Value.ref 105), DictEntry.mk (PyData.keyHash P (Str.ofString "TextIOBase")) (Value.str (Str.ofString "TextIOBase") 402) (Value.ref 117), DictEntry.mk (PyData.keyHash P (Str.ofString "BytesIO")) (Value.str (Str.ofString "BytesIO") 664) (Value.ref 347), DictEntry.mk (PyData.keyHash P (Str.ofString "StringIO")) (Value.str (Str.ofString "StringIO") 951) (Value.ref 594), DictEntry.mk (PyData.keyHash P (Str.ofString "_kind")) (Value.str (Str.ofString "_kind") 962) (Value.ref 603), DictEntry.mk (PyData.keyHash P (Str.ofString "_fspath")) (Value.str (Str.ofString "_fspath") 971) (Value.ref 610), DictEntry.mk (PyData.keyHash P (Str.ofString "_check_arg_types")) (Value.str (Str.ofString "_check_arg_types") 981) (Value.ref 617), DictEntry.mk (PyData.keyHash P (Str.ofString "isabs")) (Value.str (Str.ofString "isabs") 988) (Value.ref 624), DictEntry.mk (PyData.keyHash P (Str.ofString "join")) (Value.str (Str.ofString "join") 999) (Value.ref 631), DictEntry.mk (PyData.keyHash P (Str.ofString "dirname")) (Value.str (Str.ofString "dirname") 1009) (Value.ref 638), DictEntry.mk (PyData.keyHash P (Str.ofString "shlex")) (Value.str (Str.ofString "shlex") 1150) (Value.ref 729), DictEntry.mk (PyData.keyHash P (Str.ofString "split")) (Value.str (Str.ofString "split") 1160) (Value.ref 741), DictEntry.mk (PyData.keyHash P (Str.ofString "_law_words")) (Value.str (Str.ofString "_law_words") 1172) (Value.ref 748), DictEntry.mk (PyData.keyHash P (Str.ofString "_law_safe")) (Value.str (Str.ofString "_law_safe") 1178) (Value.ref 753), DictEntry.mk (PyData.keyHash P (Str.ofString "_law_line")) (Value.str (Str.ofString "_law_line") 1184) (Value.ref 758), DictEntry.mk (PyData.keyHash P (Str.ofString "_law_strands")) (Value.str (Str.ofString "_law_strands") 1193) (Value.ref 765), DictEntry.mk (PyData.keyHash P (Str.ofString "_law_told")) (Value.str (Str.ofString "_law_told") 1202) (Value.ref 772), DictEntry.mk (PyData.keyHash P (Str.ofString "_law_sides")) (Value.str (Str.ofString "_law_sides") 1211) (Value.ref 779), DictEntry.mk (PyData.keyHash P (Str.ofString "_law_due")) (Value.str (Str.ofString "_law_due") 1217) (Value.ref 784), DictEntry.mk (PyData.keyHash P (Str.ofString "_law_read")) (Value.str (Str.ofString "_law_read") 1223) (Value.ref 789), DictEntry.mk (PyData.keyHash P (Str.ofString "law")) (Value.str (Str.ofString "law") 1229) (Value.ref 794)] 37) #[]) ::
  (nat_lit 40, Obj.mk (Value.type "tuple") none (Data.seq #[]) #[]) ::
  (nat_lit 42, Obj.mk (Value.type "tuple") none (Data.seq #[Value.str (Str.ofString "text") 291]) #[]) ::
  (nat_lit 43, Obj.mk (Value.type "tuple") none (Data.seq #[]) #[]) ::
  (nat_lit 45, Obj.mk (Value.type "code") none (Data.fields #[Value.str (Str.ofString "strip_quotes") 288, Value.str (Str.ofString "strip_quotes") 289, Value.str (Str.ofString "/claim/cut.py") 290, Value.int 6 0, Value.int 1 0, Value.int 0 0, Value.int 0 0, Value.int 3 0, Value.ref 40, Value.bool true, Value.int 273 0, Value.ref 41, Value.none, Value.ref 42, Value.ref 43, Value.ref 44, Value.int 292 0, Value.int 6 0, Value.str (Str.ofString "/claim/cut.py") 293]) #[]) ::
  (nat_lit 46, Obj.mk (Value.type "function") none (Data.func (FuncData.mk (Str.ofString "strip_quotes") (Str.ofString "strip_quotes") f46.1.1 (FuncBody.stmts f46.1.2.1) f46.1.2.2 3 [] Value.none Value.none Value.none (Value.str (Str.ofString "cpy313.http.cookiejar") 286) none (Value.ref 45) Value.none 0)) #[]) ::
  (nat_lit 54, Obj.mk (Value.type "tuple") none (Data.seq #[]) #[]) ::
  (nat_lit 56, Obj.mk (Value.type "tuple") none (Data.seq #[Value.str (Str.ofString "n") 308, Value.str (Str.ofString "what") 309]) #[]) ::
  (nat_lit 57, Obj.mk (Value.type "tuple") none (Data.seq #[]) #[]) ::
  (nat_lit 59, Obj.mk (Value.type "code") none (Data.fields #[Value.str (Str.ofString "_index") 305, Value.str (Str.ofString "_index") 306, Value.str (Str.ofString "/claim/cut.py") 307, Value.int 18 0, Value.int 2 0, Value.int 0 0, Value.int 0 0, Value.int 3 0, Value.ref 54, Value.bool true, Value.int 273 0, Value.ref 55, Value.none, Value.ref 56, Value.ref 57, Value.ref 58, Value.int 310 0, Value.int 18 0, Value.str (Str.ofString "/claim/cut.py") 311]) #[]) ::
  (nat_lit 60, Obj.mk (Value.type "function") none (Data.func (FuncData.mk (Str.ofString "_index") (Str.ofString "_index") f60.1.1 (FuncBody.stmts f60.1.2.1) f60.1.2.2 3 [] Value.none Value.none Value.none (Value.str (Str.ofString "io") 295) none (Value.ref 59) Value.none 0)) #[]) ::
  (nat_lit 69, Obj.mk (Value.type "dict") none (Data.dict #[DictEntry.mk (PyData.keyHash P (Str.ofString "__module__")) (Value.str (Str.ofString "__module__") 320) (Value.str (Str.ofString "io") 325), DictEntry.mk (PyData.keyHash P (Str.ofString "__firstlineno__")) (Value.str (Str.ofString "__firstlineno__") 324) (Value.int 25 323), DictEntry.mk (PyData.keyHash P (Str.ofString "__static_attributes__")) (Value.str (Str.ofString "__static_attributes__") 327) (Value.ref 68), DictEntry.mk (PyData.keyHash P (Str.ofString "__weakref__")) (Value.str (Str.ofString "__weakref__") 329) (Value.ref 71), DictEntry.mk (PyData.keyHash P (Str.ofString "__doc__")) (Value.str (Str.ofString "__doc__") 330) Value.none] 3) #[]) ::
  (nat_lit 70, Obj.mk (Value.type "type") none (Data.cls (ClassData.mk (Str.ofString "UnsupportedOperation") [Value.type "OSError", Value.type "ValueError"] [Value.ref 70, Value.type "OSError", Value.type "ValueError", Value.type "Exception", Value.type "BaseException", Value.type "object"] 69 (Str.ofString "UnsupportedOperation") true [] [] false none false)) #[some (Value.ref 61), none, some (Value.str (Str.ofString "UnsupportedOperation") 313), some (Value.str (Str.ofString "UnsupportedOperation") 321), some (Value.builtin "OSError.__new__"), some (Value.bool true)]) ::
  (nat_lit 71, Obj.mk (Value.type "getset_descriptor") none (Data.fields #[Value.str (Str.ofString "__weakref__") 328, Value.ref 70, Value.builtin "ExceptionGroup.__weakref__", Value.none]) #[]) ::
  (nat_lit 81, Obj.mk (Value.type "tuple") none (Data.seq #[]) #[]) ::
  (nat_lit 83, Obj.mk (Value.type "tuple") none (Data.seq #[Value.str (Str.ofString "cls") 352, Value.str (Str.ofString "args") 353, Value.str (Str.ofString "kwargs") 354]) #[]) ::
  (nat_lit 84, Obj.mk (Value.type "tuple") none (Data.seq #[]) #[]) ::
  (nat_lit 86, Obj.mk (Value.type "code") none (Data.fields #[Value.str (Str.ofString "__new__") 349, Value.str (Str.ofString "IOBase.__new__") 350, Value.str (Str.ofString "/claim/cut.py") 351, Value.int 30 0, Value.int 1 0, Value.int 1 0, Value.int 0 0, Value.int 15 0, Value.ref 81, Value.bool true, Value.int 273 0, Value.ref 82, Value.none, Value.ref 83, Value.ref 84, Value.ref 85, Value.int 355 0, Value.int 30 0, Value.str (Str.ofString "/claim/cut.py") 356]) #[]) ::
  (nat_lit 87, Obj.mk (Value.type "function") none (Data.func (FuncData.mk (Str.ofString "__new__") (Str.ofString "IOBase.__new__") f87.1.1 (FuncBody.stmts f87.1.2.1) f87.1.2.2 3 [] Value.none Value.none Value.none (Value.str (Str.ofString "io") 295) none (Value.ref 86) Value.none 0)) #[]) ::
  (nat_lit 89, Obj.mk (Value.type "dict") none (Data.dict #[DictEntry.mk (PyData.keyHash P (Str.ofString "__module__")) (Value.str (Str.ofString "__module__") 342) (Value.str (Str.ofString "io") 347), DictEntry.mk (PyData.keyHash P (Str.ofString "__firstlineno__")) (Value.str (Str.ofString "__firstlineno__") 346) (Value.int 27 345), DictEntry.mk (PyData.keyHash P (Str.ofString "__new__")) (Value.str (Str.ofString "__new__") 357) (Value.ref 91), DictEntry.mk (PyData.keyHash P (Str.ofString "__static_attributes__")) (Value.str (Str.ofString "__static_attributes__") 358) (Value.ref 88), DictEntry.mk (PyData.keyHash P (Str.ofString "__dict__")) (Value.str (Str.ofString "__dict__") 361) (Value.ref 92), DictEntry.mk (PyData.keyHash P (Str.ofString "__weakref__")) (Value.str (Str.ofString "__weakref__") 363) (Value.ref 93), DictEntry.mk (PyData.keyHash P (Str.ofString "__doc__")) (Value.str (Str.ofString "__doc__") 364) Value.none] 4) #[]) ::
  (nat_lit 90, Obj.mk (Value.type "type") none (Data.cls (ClassData.mk (Str.ofString "IOBase") [Value.type "object"] [Value.ref 90, Value.type "object"] 89 (Str.ofString "IOBase") true [] [Value.ref 105, Value.ref 117] false none false)) #[none, none, some (Value.str (Str.ofString "IOBase") 335), some (Value.str (Str.ofString "IOBase") 343), some Value.none, some (Value.bool true)]) ::
  (nat_lit 91, Obj.mk (Value.type "staticmethod") none (Data.fields #[Value.ref 87]) #[]) ::
  (nat_lit 92, Obj.mk (Value.type "getset_descriptor") none (Data.fields #[Value.str (Str.ofString "__dict__") 360, Value.ref 90, Value.builtin "function.__dict__", Value.builtin "function.__dict__#set"]) #[]) ::
  (nat_lit 93, Obj.mk (Value.type "getset_descriptor") none (Data.fields #[Value.str (Str.ofString "__weakref__") 362, Value.ref 90, Value.builtin "ExceptionGroup.__weakref__", Value.none]) #[]) ::
  (nat_lit 104, Obj.mk (Value.type "dict") none (Data.dict #[DictEntry.mk (PyData.keyHash P (Str.ofString "__module__")) (Value.str (Str.ofString "__module__") 374) (Value.str (Str.ofString "io") 379), DictEntry.mk (PyData.keyHash P (Str.ofString "__firstlineno__")) (Value.str (Str.ofString "__firstlineno__") 378) (Value.int 34 377), DictEntry.mk (PyData.keyHash P (Str.ofString "__static_attributes__")) (Value.str (Str.ofString "__static_attributes__") 381) (Value.ref 103), DictEntry.mk (PyData.keyHash P (Str.ofString "__doc__")) (Value.str (Str.ofString "__doc__") 382) Value.none] 2) #[]) ::
  (nat_lit 105, Obj.mk (Value.type "type") none (Data.cls (ClassData.mk (Str.ofString "BufferedIOBase") [Value.ref 90] [Value.ref 105, Value.ref 90, Value.type "object"] 104 (Str.ofString "BufferedIOBase") true [] [Value.ref 347] false none false)) #[some (Value.ref 96), none, some (Value.str (Str.ofString "BufferedIOBase") 367), some (Value.str (Str.ofString "BufferedIOBase") 375), some Value.none, some (Value.bool true)]) ::
  (nat_lit 116, Obj.mk (Value.type "dict") none (Data.dict #[DictEntry.mk (PyData.keyHash P (Str.ofString "__module__")) (Value.str (Str.ofString "__module__") 392) (Value.str (Str.ofString "io") 397), DictEntry.mk (PyData.keyHash P (Str.ofString "__firstlineno__")) (Value.str (Str.ofString "__firstlineno__") 396) (Value.int 36 395), DictEntry.mk (PyData.keyHash P (Str.ofString "__static_attributes__")) (Value.str (Str.ofString "__static_attributes__") 399) (Value.ref 115), DictEntry.mk (PyData.keyHash P (Str.ofString "__doc__")) (Value.str (Str.ofString "__doc__") 400) Value.none] 2) #[]) ::
  (nat_lit 117, Obj.mk (Value.type "type") none (Data.cls (ClassData.mk (Str.ofString "TextIOBase") [Value.ref 90] [Value.ref 117, Value.ref 90, Value.type "object"] 116 (Str.ofString "TextIOBase") true [] [Value.ref 594] false none false)) #[some (Value.ref 108), none, some (Value.str (Str.ofString "TextIOBase") 385), some (Value.str (Str.ofString "TextIOBase") 393), some Value.none, some (Value.bool true)]) ::
  (nat_lit 156, Obj.mk (Value.type "property") none (Data.fields #[Value.ref 155, Value.none, Value.none, Value.none, Value.str (Str.ofString "closed") 450, Value.bool false]) #[]) ::
  (nat_lit 346, Obj.mk (Value.type "dict") none (Data.dict #[DictEntry.mk (PyData.keyHash P (Str.ofString "__module__")) (Value.str (Str.ofString "__module__") 410) (Value.str (Str.ofString "_io") 415), DictEntry.mk (PyData.keyHash P (Str.ofString "__firstlineno__")) (Value.str (Str.ofString "__firstlineno__") 414) (Value.int 38 413), DictEntry.mk (PyData.keyHash P (Str.ofString "__init__")) (Value.str (Str.ofString "__init__") 424) (Value.ref 134), DictEntry.mk (PyData.keyHash P (Str.ofString "_BytesIO__check")) (Value.str (Str.ofString "_BytesIO__check") 431) (Value.ref 141), DictEntry.mk (PyData.keyHash P (Str.ofString "_BytesIO__line")) (Value.str (Str.ofString "_BytesIO__line") 442) (Value.ref 148), DictEntry.mk (PyData.keyHash P (Str.ofString "closed")) (Value.str (Str.ofString "closed") 450) (Value.ref 156), DictEntry.mk (PyData.keyHash P (Str.ofString "close")) (Value.str (Str.ofString "close") 457) (Value.ref 163), DictEntry.mk (PyData.keyHash P (Str.ofString "__enter__")) (Value.str (Str.ofString "__enter__") 464) (Value.ref 170), DictEntry.mk (PyData.keyHash P (Str.ofString "__exit__")) (Value.str (Str.ofString "__exit__") 472) (Value.ref 177), DictEntry.mk (PyData.keyHash P (Str.ofString "readable")) (Value.str (Str.ofString "readable") 479) (Value.ref 184), DictEntry.mk (PyData.keyHash P (Str.ofString "writable")) (Value.str (Str.ofString "writable") 486) (Value.ref 191), DictEntry.mk (PyData.keyHash P (Str.ofString "seekable")) (Value.str (Str.ofString "seekable") 493) (Value.ref 198), DictEntry.mk (PyData.keyHash P (Str.ofString "isatty")) (Value.str (Str.ofString "isatty") 500) (Value.ref 205), DictEntry.mk (PyData.keyHash P (Str.ofString "flush")) (Value.str (Str.ofString "flush") 507) (Value.ref 212), DictEntry.mk (PyData.keyHash P (Str.ofString "fileno")) (Value.str (Str.ofString "fileno") 514) (Value.ref 219), DictEntry.mk (PyData.keyHash P (Str.ofString "detach")) (Value.str (Str.ofString "detach") 521) (Value.ref 226), DictEntry.mk (PyData.keyHash P (Str.ofString "getvalue")) (Value.str (Str.ofString "getvalue") 528) (Value.ref 233), DictEntry.mk (PyData.keyHash P (Str.ofString "getbuffer")) (Value.str (Str.ofString "getbuffer") 535) (Value.ref 240), DictEntry.mk (PyData.keyHash P (Str.ofString "tell")) (Value.str (Str.ofString "tell") 542) (Value.ref 247), DictEntry.mk (PyData.keyHash P (Str.ofString "seek")) (Value.str (Str.ofString "seek") 552) (Value.ref 255), DictEntry.mk (PyData.keyHash P (Str.ofString "truncate")) (Value.str (Str.ofString "truncate") 560) (Value.ref 263), DictEntry.mk (PyData.keyHash P (Str.ofString "read")) (Value.str (Str.ofString "read") 572) (Value.ref 271), DictEntry.mk (PyData.keyHash P (Str.ofString "read1")) (Value.str (Str.ofString "read1") 582) (Value.ref 279), DictEntry.mk (PyData.keyHash P (Str.ofString "readinto")) (Value.str (Str.ofString "readinto") 592) (Value.ref 286), DictEntry.mk (PyData.keyHash P (Str.ofString "readinto1")) (Value.str (Str.ofString "readinto1") 600) (Value.ref 293), DictEntry.mk (PyData.keyHash P (Str.ofString "readline")) (Value.str (Str.ofString "readline") 610) (Value.ref 301), DictEntry.mk (PyData.keyHash P (Str.ofString "readlines")) (Value.str (Str.ofString "readlines") 618) (Value.ref 309), DictEntry.mk (PyData.keyHash P (Str.ofString "__iter__")) (Value.str (Str.ofString "__iter__") 625) (Value.ref 316), DictEntry.mk (PyData.keyHash P (Str.ofString "__next__")) (Value.str (Str.ofString "__next__") 633) (Value.ref 323), DictEntry.mk (PyData.keyHash P (Str.ofString "write")) (Value.str (Str.ofString "write") 643) (Value.ref 330), DictEntry.mk (PyData.keyHash P (Str.ofString "writelines")) (Value.str (Str.ofString "writelines") 651) (Value.ref 337), DictEntry.mk (PyData.keyHash P (Str.ofString "__repr__")) (Value.str (Str.ofString "__repr__") 658) (Value.ref 344), DictEntry.mk (PyData.keyHash P (Str.ofString "__static_attributes__")) (Value.str (Str.ofString "__static_attributes__") 661) (Value.ref 345), DictEntry.mk (PyData.keyHash P (Str.ofString "__doc__")) (Value.str (Str.ofString "__doc__") 662) Value.none] 2) #[]) ::
  (nat_lit 347, Obj.mk (Value.type "type") none (Data.cls (ClassData.mk (Str.ofString "BytesIO") [Value.ref 105] [Value.ref 347, Value.ref 105, Value.ref 90, Value.type "object"] 346 (Str.ofString "BytesIO") true [] [] false none false)) #[some (Value.ref 120), none, some (Value.str (Str.ofString "BytesIO") 403), some (Value.str (Str.ofString "BytesIO") 411), some Value.none, some (Value.bool true)]) ::
  (nat_lit 357, Obj.mk (Value.type "tuple") none (Data.seq #[Value.str (Str.ofString "") 679, Value.str (Str.ofString "\n") 680]) #[]) ::
  (nat_lit 358, Obj.mk (Value.type "tuple") none (Data.seq #[]) #[]) ::
  (nat_lit 360, Obj.mk (Value.type "tuple") none (Data.seq #[Value.str (Str.ofString "self") 684, Value.str (Str.ofString "initial_value") 685, Value.str (Str.ofString "newline") 686]) #[]) ::
  (nat_lit 361, Obj.mk (Value.type "tuple") none (Data.seq #[]) #[]) ::
  (nat_lit 363, Obj.mk (Value.type "code") none (Data.fields #[Value.str (Str.ofString "__init__") 681, Value.str (Str.ofString "StringIO.__init__") 682, Value.str (Str.ofString "/claim/cut.py") 683, Value.int 211 0, Value.int 3 0, Value.int 0 0, Value.int 0 0, Value.int 3 0, Value.ref 358, Value.bool true, Value.int 273 0, Value.ref 359, Value.none, Value.ref 360, Value.ref 361, Value.ref 362, Value.int 687 0, Value.int 211 0, Value.str (Str.ofString "/claim/cut.py") 688]) #[]) ::
  (nat_lit 364, Obj.mk (Value.type "function") none (Data.func (FuncData.mk (Str.ofString "__init__") (Str.ofString "StringIO.__init__") f364.1.1 (FuncBody.stmts f364.1.2.1) f364.1.2.2 3 [] (Value.ref 357) Value.none Value.none (Value.str (Str.ofString "io") 295) none (Value.ref 363) Value.none 0)) #[]) ::
  (nat_lit 365, Obj.mk (Value.type "tuple") none (Data.seq #[]) #[]) ::
  (nat_lit 367, Obj.mk (Value.type "tuple") none (Data.seq #[Value.str (Str.ofString "self") 693, Value.str (Str.ofString "s") 694, Value.str (Str.ofString "newline") 695]) #[]) ::
  (nat_lit 368, Obj.mk (Value.type "tuple") none (Data.seq #[]) #[]) ::
  (nat_lit 370, Obj.mk (Value.type "code") none (Data.fields #[Value.str (Str.ofString "__translated") 690, Value.str (Str.ofString "StringIO.__translated") 691, Value.str (Str.ofString "/claim/cut.py") 692, Value.int 224 0, Value.int 2 0, Value.int 0 0, Value.int 0 0, Value.int 3 0, Value.ref 365, Value.bool true, Value.int 273 0, Value.ref 366, Value.none, Value.ref 367, Value.ref 368, Value.ref 369, Value.int 696 0, Value.int 224 0, Value.str (Str.ofString "/claim/cut.py") 697]) #[]) ::
  (nat_lit 371, Obj.mk (Value.type "function") none (Data.func (FuncData.mk (Str.ofString "__translated") (Str.ofString "StringIO.__translated") f371.1.1 (FuncBody.stmts f371.1.2.1) f371.1.2.2 3 [] Value.none Value.none Value.none (Value.str (Str.ofString "io") 295) none (Value.ref 370) Value.none 0)) #[]) ::
  (nat_lit 372, Obj.mk (Value.type "tuple") none (Data.seq #[]) #[]) ::
  (nat_lit 374, Obj.mk (Value.type "tuple") none (Data.seq #[Value.str (Str.ofString "self") 702]) #[]) ::
  (nat_lit 375, Obj.mk (Value.type "tuple") none (Data.seq #[]) #[]) ::
  (nat_lit 377, Obj.mk (Value.type "code") none (Data.fields #[Value.str (Str.ofString "__check") 699, Value.str (Str.ofString "StringIO.__check") 700, Value.str (Str.ofString "/claim/cut.py") 701, Value.int 232 0, Value.int 1 0, Value.int 0 0, Value.int 0 0, Value.int 3 0, Value.ref 372, Value.bool true, Value.int 273 0, Value.ref 373, Value.none, Value.ref 374, Value.ref 375, Value.ref 376, Value.int 703 0, Value.int 232 0, Value.str (Str.ofString "/claim/cut.py") 704]) #[]) ::
  (nat_lit 378, Obj.mk (Value.type "function") none (Data.func (FuncData.mk (Str.ofString "__check") (Str.ofString "StringIO.__check") f378.1.1 (FuncBody.stmts f378.1.2.1) f378.1.2.2 3 [] Value.none Value.none Value.none (Value.str (Str.ofString "io") 295) none (Value.ref 377) Value.none 0)) #[]) ::
  (nat_lit 400, Obj.mk (Value.type "property") none (Data.fields #[Value.ref 399, Value.none, Value.none, Value.none, Value.str (Str.ofString "closed") 735, Value.bool false]) #[]) ::
  (nat_lit 408, Obj.mk (Value.type "property") none (Data.fields #[Value.ref 407, Value.none, Value.none, Value.none, Value.str (Str.ofString "line_buffering") 743, Value.bool false]) #[]) ::
  (nat_lit 416, Obj.mk (Value.type "property") none (Data.fields #[Value.ref 415, Value.none, Value.none, Value.none, Value.str (Str.ofString "newlines") 751, Value.bool false]) #[]) ::
  (nat_lit 424, Obj.mk (Value.type "property") none (Data.fields #[Value.ref 423, Value.none, Value.none, Value.none, Value.str (Str.ofString "encoding") 759, Value.bool false]) #[]) ::
  (nat_lit 432, Obj.mk (Value.type "property") none (Data.fields #[Value.ref 431, Value.none, Value.none, Value.none, Value.str (Str.ofString "errors") 767, Value.bool false]) #[]) ::
  (nat_lit 533, Obj.mk (Value.type "tuple") none (Data.seq #[Value.int (-1) 872]) #[]) ::
  (nat_lit 534, Obj.mk (Value.type "tuple") none (Data.seq #[]) #[]) ::
  (nat_lit 536, Obj.mk (Value.type "tuple") none (Data.seq #[Value.str (Str.ofString "self") 876, Value.str (Str.ofString "size") 877, Value.str (Str.ofString "start") 878, Value.str (Str.ofString "stop") 879]) #[]) ::
  (nat_lit 537, Obj.mk (Value.type "tuple") none (Data.seq #[]) #[]) ::
  (nat_lit 539, Obj.mk (Value.type "code") none (Data.fields #[Value.str (Str.ofString "read") 873, Value.str (Str.ofString "StringIO.read") 874, Value.str (Str.ofString "/claim/cut.py") 875, Value.int 354 0, Value.int 2 0, Value.int 2 0, Value.int 0 0, Value.int 3 0, Value.ref 534, Value.bool true, Value.int 273 0, Value.ref 535, Value.none, Value.ref 536, Value.ref 537, Value.ref 538, Value.int 880 0, Value.int 354 0, Value.str (Str.ofString "/claim/cut.py") 881]) #[]) ::
  (nat_lit 540, Obj.mk (Value.type "function") none (Data.func (FuncData.mk (Str.ofString "read") (Str.ofString "StringIO.read") f540.1.1 (FuncBody.stmts f540.1.2.1) f540.1.2.2 3 [] (Value.ref 533) Value.none Value.none (Value.str (Str.ofString "io") 295) none (Value.ref 539) Value.none 0)) #[]) ::
  (nat_lit 593, Obj.mk (Value.type "dict") none (Data.dict #[DictEntry.mk (PyData.keyHash P (Str.ofString "__module__")) (Value.str (Str.ofString "__module__") 672) (Value.str (Str.ofString "_io") 677), DictEntry.mk (PyData.keyHash P (Str.ofString "__firstlineno__")) (Value.str (Str.ofString "__firstlineno__") 676) (Value.int 208 675), DictEntry.mk (PyData.keyHash P (Str.ofString "__init__")) (Value.str (Str.ofString "__init__") 689) (Value.ref 364), DictEntry.mk (PyData.keyHash P (Str.ofString "_StringIO__translated")) (Value.str (Str.ofString "_StringIO__translated") 698) (Value.ref 371), DictEntry.mk (PyData.keyHash P (Str.ofString "_StringIO__check")) (Value.str (Str.ofString "_StringIO__check") 705) (Value.ref 378), DictEntry.mk (PyData.keyHash P (Str.ofString "_StringIO__check_dot")) (Value.str (Str.ofString "_StringIO__check_dot") 712) (Value.ref 385), DictEntry.mk (PyData.keyHash P (Str.ofString "_StringIO__line")) (Value.str (Str.ofString "_StringIO__line") 727) (Value.ref 392), DictEntry.mk (PyData.keyHash P (Str.ofString "closed")) (Value.str (Str.ofString "closed") 735) (Value.ref 400), DictEntry.mk (PyData.keyHash P (Str.ofString "line_buffering")) (Value.str (Str.ofString "line_buffering") 743) (Value.ref 408), DictEntry.mk (PyData.keyHash P (Str.ofString "newlines")) (Value.str (Str.ofString "newlines") 751) (Value.ref 416), DictEntry.mk (PyData.keyHash P (Str.ofString "encoding")) (Value.str (Str.ofString "encoding") 759) (Value.ref 424), DictEntry.mk (PyData.keyHash P (Str.ofString "errors")) (Value.str (Str.ofString "errors") 767) (Value.ref 432), DictEntry.mk (PyData.keyHash P (Str.ofString "close")) (Value.str (Str.ofString "close") 774) (Value.ref 439), DictEntry.mk (PyData.keyHash P (Str.ofString "__enter__")) (Value.str (Str.ofString "__enter__") 781) (Value.ref 446), DictEntry.mk (PyData.keyHash P (Str.ofString "__exit__")) (Value.str (Str.ofString "__exit__") 789) (Value.ref 453), DictEntry.mk (PyData.keyHash P (Str.ofString "readable")) (Value.str (Str.ofString "readable") 796) (Value.ref 460), DictEntry.mk (PyData.keyHash P (Str.ofString "writable")) (Value.str (Str.ofString "writable") 803) (Value.ref 467), DictEntry.mk (PyData.keyHash P (Str.ofString "seekable")) (Value.str (Str.ofString "seekable") 810) (Value.ref 474), DictEntry.mk (PyData.keyHash P (Str.ofString "isatty")) (Value.str (Str.ofString "isatty") 817) (Value.ref 481), DictEntry.mk (PyData.keyHash P (Str.ofString "flush")) (Value.str (Str.ofString "flush") 824) (Value.ref 488), DictEntry.mk (PyData.keyHash P (Str.ofString "fileno")) (Value.str (Str.ofString "fileno") 831) (Value.ref 495), DictEntry.mk (PyData.keyHash P (Str.ofString "detach")) (Value.str (Str.ofString "detach") 838) (Value.ref 502), DictEntry.mk (PyData.keyHash P (Str.ofString "getvalue")) (Value.str (Str.ofString "getvalue") 845) (Value.ref 509), DictEntry.mk (PyData.keyHash P (Str.ofString "tell")) (Value.str (Str.ofString "tell") 852) (Value.ref 516), DictEntry.mk (PyData.keyHash P (Str.ofString "seek")) (Value.str (Str.ofString "seek") 862) (Value.ref 524), DictEntry.mk (PyData.keyHash P (Str.ofString "truncate")) (Value.str (Str.ofString "truncate") 870) (Value.ref 532), DictEntry.mk (PyData.keyHash P (Str.ofString "read")) (Value.str (Str.ofString "read") 882) (Value.ref 540), DictEntry.mk (PyData.keyHash P (Str.ofString "readline")) (Value.str (Str.ofString "readline") 892) (Value.ref 548), DictEntry.mk (PyData.keyHash P (Str.ofString "readlines")) (Value.str (Str.ofString "readlines") 902) (Value.ref 556), DictEntry.mk (PyData.keyHash P (Str.ofString "__iter__")) (Value.str (Str.ofString "__iter__") 909) (Value.ref 563), DictEntry.mk (PyData.keyHash P (Str.ofString "__next__")) (Value.str (Str.ofString "__next__") 917) (Value.ref 570), DictEntry.mk (PyData.keyHash P (Str.ofString "write")) (Value.str (Str.ofString "write") 929) (Value.ref 577), DictEntry.mk (PyData.keyHash P (Str.ofString "writelines")) (Value.str (Str.ofString "writelines") 937) (Value.ref 584), DictEntry.mk (PyData.keyHash P (Str.ofString "__repr__")) (Value.str (Str.ofString "__repr__") 944) (Value.ref 591), DictEntry.mk (PyData.keyHash P (Str.ofString "__static_attributes__")) (Value.str (Str.ofString "__static_attributes__") 948) (Value.ref 592), DictEntry.mk (PyData.keyHash P (Str.ofString "__doc__")) (Value.str (Str.ofString "__doc__") 949) Value.none] 2) #[]) ::
  (nat_lit 594, Obj.mk (Value.type "type") none (Data.cls (ClassData.mk (Str.ofString "StringIO") [Value.ref 117] [Value.ref 594, Value.ref 117, Value.ref 90, Value.type "object"] 593 (Str.ofString "StringIO") true [] [] false none false)) #[some (Value.ref 350), none, some (Value.str (Str.ofString "StringIO") 665), some (Value.str (Str.ofString "StringIO") 673), some Value.none, some (Value.bool true)]) ::
  (nat_lit 646, Obj.mk (Value.type "tuple") none (Data.seq #[Value.none, Value.none, Value.bool false, Value.bool false]) #[]) ::
  (nat_lit 647, Obj.mk (Value.type "tuple") none (Data.seq #[]) #[]) ::
  (nat_lit 649, Obj.mk (Value.type "tuple") none (Data.seq #[Value.str (Str.ofString "self") 1027, Value.str (Str.ofString "instream") 1028, Value.str (Str.ofString "infile") 1029, Value.str (Str.ofString "posix") 1030, Value.str (Str.ofString "punctuation_chars") 1031, Value.str (Str.ofString "t") 1032]) #[]) ::
  (nat_lit 650, Obj.mk (Value.type "tuple") none (Data.seq #[]) #[]) ::
  (nat_lit 652, Obj.mk (Value.type "code") none (Data.fields #[Value.str (Str.ofString "__init__") 1024, Value.str (Str.ofString "shlex.__init__") 1025, Value.str (Str.ofString "/claim/cut.py") 1026, Value.int 479 0, Value.int 5 0, Value.int 0 0, Value.int 0 0, Value.int 3 0, Value.ref 647, Value.bool true, Value.int 273 0, Value.ref 648, Value.none, Value.ref 649, Value.ref 650, Value.ref 651, Value.int 1033 0, Value.int 479 0, Value.str (Str.ofString "/claim/cut.py") 1034]) #[]) ::
  (nat_lit 653, Obj.mk (Value.type "function") none (Data.func (FuncData.mk (Str.ofString "__init__") (Str.ofString "shlex.__init__") f653.1.1 (FuncBody.stmts f653.1.2.1) f653.1.2.2 3 [] (Value.ref 646) Value.none Value.none (Value.str (Str.ofString "cpy313.shlex") 1010) none (Value.ref 652) Value.none 0)) #[]) ::
  (nat_lit 654, Obj.mk (Value.type "tuple") none (Data.seq #[]) #[]) ::
  (nat_lit 656, Obj.mk (Value.type "tuple") none (Data.seq #[Value.str (Str.ofString "self") 1039]) #[]) ::
  (nat_lit 657, Obj.mk (Value.type "tuple") none (Data.seq #[]) #[]) ::
  (nat_lit 659, Obj.mk (Value.type "code") none (Data.fields #[Value.str (Str.ofString "punctuation_chars") 1036, Value.str (Str.ofString "shlex.punctuation_chars") 1037, Value.str (Str.ofString "/claim/cut.py") 1038, Value.int 520 0, Value.int 1 0, Value.int 0 0, Value.int 0 0, Value.int 3 0, Value.ref 654, Value.bool true, Value.int 273 0, Value.ref 655, Value.none, Value.ref 656, Value.ref 657, Value.ref 658, Value.int 1040 0, Value.int 520 0, Value.str (Str.ofString "/claim/cut.py") 1041]) #[]) ::
  (nat_lit 660, Obj.mk (Value.type "function") none (Data.func (FuncData.mk (Str.ofString "punctuation_chars") (Str.ofString "shlex.punctuation_chars") f660.1.1 (FuncBody.stmts f660.1.2.1) f660.1.2.2 3 [] Value.none Value.none Value.none (Value.str (Str.ofString "cpy313.shlex") 1010) none (Value.ref 659) Value.none 0)) #[]) ::
  (nat_lit 661, Obj.mk (Value.type "property") none (Data.fields #[Value.ref 660, Value.none, Value.none, Value.none, Value.str (Str.ofString "punctuation_chars") 1043, Value.bool false]) #[]) ::
  (nat_lit 684, Obj.mk (Value.type "tuple") none (Data.seq #[]) #[]) ::
  (nat_lit 686, Obj.mk (Value.type "tuple") none (Data.seq #[Value.str (Str.ofString "self") 1071, Value.str (Str.ofString "tok") 1072, Value.str (Str.ofString "raw") 1073, Value.str (Str.ofString "spec") 1074, Value.str (Str.ofString "newfile") 1075, Value.str (Str.ofString "newstream") 1076]) #[]) ::
  (nat_lit 687, Obj.mk (Value.type "tuple") none (Data.seq #[]) #[]) ::
  (nat_lit 689, Obj.mk (Value.type "code") none (Data.fields #[Value.str (Str.ofString "get_token") 1068, Value.str (Str.ofString "shlex.get_token") 1069, Value.str (Str.ofString "/claim/cut.py") 1070, Value.int 547 0, Value.int 1 0, Value.int 0 0, Value.int 0 0, Value.int 3 0, Value.ref 684, Value.bool true, Value.int 273 0, Value.ref 685, Value.none, Value.ref 686, Value.ref 687, Value.ref 688, Value.int 1077 0, Value.int 547 0, Value.str (Str.ofString "/claim/cut.py") 1078]) #[]) ::
  (nat_lit 690, Obj.mk (Value.type "function") none (Data.func (FuncData.mk (Str.ofString "get_token") (Str.ofString "shlex.get_token") f690.1.1 (FuncBody.stmts f690.1.2.1) f690.1.2.2 3 [] Value.none Value.none Value.none (Value.str (Str.ofString "cpy313.shlex") 1010) none (Value.ref 689) Value.none 0)) #[]) ::
  (nat_lit 691, Obj.mk (Value.type "tuple") none (Data.seq #[]) #[]) ::
  (nat_lit 693, Obj.mk (Value.type "tuple") none (Data.seq #[Value.str (Str.ofString "self") 1083, Value.str (Str.ofString "quoted") 1084, Value.str (Str.ofString "escapedstate") 1085, Value.str (Str.ofString "nextchar") 1086, Value.str (Str.ofString "result") 1087]) #[]) ::
  (nat_lit 694, Obj.mk (Value.type "tuple") none (Data.seq #[]) #[]) ::
  (nat_lit 696, Obj.mk (Value.type "code") none (Data.fields #[Value.str (Str.ofString "read_token") 1080, Value.str (Str.ofString "shlex.read_token") 1081, Value.str (Str.ofString "/claim/cut.py") 1082, Value.int 574 0, Value.int 1 0, Value.int 0 0, Value.int 0 0, Value.int 3 0, Value.ref 691, Value.bool true, Value.int 273 0, Value.ref 692, Value.none, Value.ref 693, Value.ref 694, Value.ref 695, Value.int 1088 0, Value.int 574 0, Value.str (Str.ofString "/claim/cut.py") 1089]) #[]) ::
  (nat_lit 697, Obj.mk (Value.type "function") none (Data.func (FuncData.mk (Str.ofString "read_token") (Str.ofString "shlex.read_token") f697.1.1 (FuncBody.stmts f697.1.2.1) f697.1.2.2 3 [] Value.none Value.none Value.none (Value.str (Str.ofString "cpy313.shlex") 1010) none (Value.ref 696) Value.none 0)) #[]) ::
  (nat_lit 713, Obj.mk (Value.type "tuple") none (Data.seq #[]) #[]) ::
  (nat_lit 715, Obj.mk (Value.type "tuple") none (Data.seq #[Value.str (Str.ofString "self") 1111]) #[]) ::
  (nat_lit 716, Obj.mk (Value.type "tuple") none (Data.seq #[]) #[]) ::
  (nat_lit 718, Obj.mk (Value.type "code") none (Data.fields #[Value.str (Str.ofString "__iter__") 1108, Value.str (Str.ofString "shlex.__iter__") 1109, Value.str (Str.ofString "/claim/cut.py") 1110, Value.int 721 0, Value.int 1 0, Value.int 0 0, Value.int 0 0, Value.int 3 0, Value.ref 713, Value.bool true, Value.int 273 0, Value.ref 714, Value.none, Value.ref 715, Value.ref 716, Value.ref 717, Value.int 1112 0, Value.int 721 0, Value.str (Str.ofString "/claim/cut.py") 1113]) #[]) ::
  (nat_lit 719, Obj.mk (Value.type "function") none (Data.func (FuncData.mk (Str.ofString "__iter__") (Str.ofString "shlex.__iter__") f719.1.1 (FuncBody.stmts f719.1.2.1) f719.1.2.2 3 [] Value.none Value.none Value.none (Value.str (Str.ofString "cpy313.shlex") 1010) none (Value.ref 718) Value.none 0)) #[]) ::
  (nat_lit 720, Obj.mk (Value.type "tuple") none (Data.seq #[]) #[]) ::
  (nat_lit 722, Obj.mk (Value.type "tuple") none (Data.seq #[Value.str (Str.ofString "self") 1118, Value.str (Str.ofString "token") 1119]) #[]) ::
  (nat_lit 723, Obj.mk (Value.type "tuple") none (Data.seq #[]) #[]) ::
  (nat_lit 725, Obj.mk (Value.type "code") none (Data.fields #[Value.str (Str.ofString "__next__") 1115, Value.str (Str.ofString "shlex.__next__") 1116, Value.str (Str.ofString "/claim/cut.py") 1117, Value.int 724 0, Value.int 1 0, Value.int 0 0, Value.int 0 0, Value.int 3 0, Value.ref 720, Value.bool true, Value.int 273 0, Value.ref 721, Value.none, Value.ref 722, Value.ref 723, Value.ref 724, Value.int 1120 0, Value.int 724 0, Value.str (Str.ofString "/claim/cut.py") 1121]) #[]) ::
  (nat_lit 726, Obj.mk (Value.type "function") none (Data.func (FuncData.mk (Str.ofString "__next__") (Str.ofString "shlex.__next__") f726.1.1 (FuncBody.stmts f726.1.2.1) f726.1.2.2 3 [] Value.none Value.none Value.none (Value.str (Str.ofString "cpy313.shlex") 1010) none (Value.ref 725) Value.none 0)) #[]) ::
  (nat_lit 728, Obj.mk (Value.type "dict") none (Data.dict #[DictEntry.mk (PyData.keyHash P (Str.ofString "__module__")) (Value.str (Str.ofString "__module__") 1019) (Value.str (Str.ofString "cpy313.shlex") 1010), DictEntry.mk (PyData.keyHash P (Str.ofString "__firstlineno__")) (Value.str (Str.ofString "__firstlineno__") 1023) (Value.int 477 1022), DictEntry.mk (PyData.keyHash P (Str.ofString "__init__")) (Value.str (Str.ofString "__init__") 1035) (Value.ref 653), DictEntry.mk (PyData.keyHash P (Str.ofString "punctuation_chars")) (Value.str (Str.ofString "punctuation_chars") 1043) (Value.ref 661), DictEntry.mk (PyData.keyHash P (Str.ofString "push_token")) (Value.str (Str.ofString "push_token") 1051) (Value.ref 668), DictEntry.mk (PyData.keyHash P (Str.ofString "push_source")) (Value.str (Str.ofString "push_source") 1060) (Value.ref 676), DictEntry.mk (PyData.keyHash P (Str.ofString "pop_source")) (Value.str (Str.ofString "pop_source") 1067) (Value.ref 683), DictEntry.mk (PyData.keyHash P (Str.ofString "get_token")) (Value.str (Str.ofString "get_token") 1079) (Value.ref 690), DictEntry.mk (PyData.keyHash P (Str.ofString "read_token")) (Value.str (Str.ofString "read_token") 1090) (Value.ref 697), DictEntry.mk (PyData.keyHash P (Str.ofString "sourcehook")) (Value.str (Str.ofString "sourcehook") 1098) (Value.ref 704), DictEntry.mk (PyData.keyHash P (Str.ofString "error_leader")) (Value.str (Str.ofString "error_leader") 1107) (Value.ref 712), DictEntry.mk (PyData.keyHash P (Str.ofString "__iter__")) (Value.str (Str.ofString "__iter__") 1114) (Value.ref 719), DictEntry.mk (PyData.keyHash P (Str.ofString "__next__")) (Value.str (Str.ofString "__next__") 1122) (Value.ref 726), DictEntry.mk (PyData.keyHash P (Str.ofString "__static_attributes__")) (Value.str (Str.ofString "__static_attributes__") 1143) (Value.ref 727), DictEntry.mk (PyData.keyHash P (Str.ofString "__dict__")) (Value.str (Str.ofString "__dict__") 1145) (Value.ref 730), DictEntry.mk (PyData.keyHash P (Str.ofString "__weakref__")) (Value.str (Str.ofString "__weakref__") 1147) (Value.ref 731), DictEntry.mk (PyData.keyHash P (Str.ofString "__doc__")) (Value.str (Str.ofString "__doc__") 1148) Value.none] 4) #[]) ::
  (nat_lit 729, Obj.mk (Value.type "type") none (Data.cls (ClassData.mk (Str.ofString "shlex") [Value.type "object"] [Value.ref 729, Value.type "object"] 728 (Str.ofString "shlex") true [] [] false none false)) #[none, none, some (Value.str (Str.ofString "shlex") 1012), some (Value.str (Str.ofString "shlex") 1020), some (Value.builtin "object.__new__"), some (Value.bool true)]) ::
  (nat_lit 730, Obj.mk (Value.type "getset_descriptor") none (Data.fields #[Value.str (Str.ofString "__dict__") 1144, Value.ref 729, Value.builtin "function.__dict__", Value.builtin "function.__dict__#set"]) #[]) ::
  (nat_lit 731, Obj.mk (Value.type "getset_descriptor") none (Data.fields #[Value.str (Str.ofString "__weakref__") 1146, Value.ref 729, Value.builtin "ExceptionGroup.__weakref__", Value.none]) #[]) ::
  (nat_lit 734, Obj.mk (Value.type "tuple") none (Data.seq #[Value.bool false, Value.bool true]) #[]) ::
  (nat_lit 735, Obj.mk (Value.type "tuple") none (Data.seq #[]) #[]) ::
  (nat_lit 737, Obj.mk (Value.type "tuple") none (Data.seq #[Value.str (Str.ofString "s") 1154, Value.str (Str.ofString "comments") 1155, Value.str (Str.ofString "posix") 1156, Value.str (Str.ofString "lex") 1157]) #[]) ::
  (nat_lit 738, Obj.mk (Value.type "tuple") none (Data.seq #[]) #[]) ::
  (nat_lit 740, Obj.mk (Value.type "code") none (Data.fields #[Value.str (Str.ofString "split") 1151, Value.str (Str.ofString "split") 1152, Value.str (Str.ofString "/claim/cut.py") 1153, Value.int 729 0, Value.int 3 0, Value.int 0 0, Value.int 0 0, Value.int 3 0, Value.ref 735, Value.bool true, Value.int 273 0, Value.ref 736, Value.none, Value.ref 737, Value.ref 738, Value.ref 739, Value.int 1158 0, Value.int 729 0, Value.str (Str.ofString "/claim/cut.py") 1159]) #[]) ::
  (nat_lit 741, Obj.mk (Value.type "function") none (Data.func (FuncData.mk (Str.ofString "split") (Str.ofString "split") f741.1.1 (FuncBody.stmts f741.1.2.1) f741.1.2.2 3 [] (Value.ref 734) Value.none Value.none (Value.str (Str.ofString "cpy313.shlex") 1010) none (Value.ref 740) Value.none 0)) #[]) ::
  (nat_lit 742, Obj.mk (Value.type "tuple") none (Data.seq #[]) #[]) ::
  (nat_lit 744, Obj.mk (Value.type "tuple") none (Data.seq #[Value.str (Str.ofString "script") 1166, Value.str (Str.ofString "words") 1167, Value.str (Str.ofString "x") 1168, Value.str (Str.ofString "signs") 1169]) #[]) ::
  (nat_lit 745, Obj.mk (Value.type "tuple") none (Data.seq #[]) #[]) ::
  (nat_lit 747, Obj.mk (Value.type "code") none (Data.fields #[Value.str (Str.ofString "_law_words") 1163, Value.str (Str.ofString "_law_words") 1164, Value.str (Str.ofString "/claim/cut.py") 1165, Value.int 738 0, Value.int 1 0, Value.int 0 0, Value.int 0 0, Value.int 3 0, Value.ref 742, Value.bool true, Value.int 273 0, Value.ref 743, Value.none, Value.ref 744, Value.ref 745, Value.ref 746, Value.int 1170 0, Value.int 738 0, Value.str (Str.ofString "/claim/cut.py") 1171]) #[]) ::
  (nat_lit 748, Obj.mk (Value.type "function") none (Data.func (FuncData.mk (Str.ofString "_law_words") (Str.ofString "_law_words") f748.1.1 (FuncBody.stmts f748.1.2.1) f748.1.2.2 3 [] Value.none Value.none Value.none (Value.str (Str.ofString "law_nq0186_01") 1161) none (Value.ref 747) Value.none 0)) #[]) ::
  (nat_lit 749, Obj.mk (Value.type "tuple") none (Data.seq #[]) #[]) ::
  (nat_lit 752, Obj.mk (Value.type "code") none (Data.fields #[Value.str (Str.ofString "_law_safe") 1173, Value.str (Str.ofString "_law_safe") 1174, Value.str (Str.ofString "/claim/cut.py") 1175, Value.int 747 0, Value.int 1 0, Value.int 0 0, Value.int 0 0, Value.int 3 0, Value.ref 749, Value.bool true, Value.int 273 0, Value.ref 750, Value.none, Value.none, Value.none, Value.ref 751, Value.int 1176 0, Value.int 747 0, Value.str (Str.ofString "/claim/cut.py") 1177]) #[]) ::
  (nat_lit 753, Obj.mk (Value.type "function") none (Data.func (FuncData.mk (Str.ofString "_law_safe") (Str.ofString "_law_safe") f753.1.1 (FuncBody.stmts f753.1.2.1) f753.1.2.2 3 [] Value.none Value.none Value.none (Value.str (Str.ofString "law_nq0186_01") 1161) none (Value.ref 752) Value.none 0)) #[]) ::
  (nat_lit 754, Obj.mk (Value.type "tuple") none (Data.seq #[]) #[]) ::
  (nat_lit 757, Obj.mk (Value.type "code") none (Data.fields #[Value.str (Str.ofString "_law_line") 1179, Value.str (Str.ofString "_law_line") 1180, Value.str (Str.ofString "/claim/cut.py") 1181, Value.int 749 0, Value.int 1 0, Value.int 0 0, Value.int 0 0, Value.int 3 0, Value.ref 754, Value.bool true, Value.int 273 0, Value.ref 755, Value.none, Value.none, Value.none, Value.ref 756, Value.int 1182 0, Value.int 749 0, Value.str (Str.ofString "/claim/cut.py") 1183]) #[]) ::
  (nat_lit 758, Obj.mk (Value.type "function") none (Data.func (FuncData.mk (Str.ofString "_law_line") (Str.ofString "_law_line") f758.1.1 (FuncBody.stmts f758.1.2.1) f758.1.2.2 3 [] Value.none Value.none Value.none (Value.str (Str.ofString "law_nq0186_01") 1161) none (Value.ref 757) Value.none 0)) #[]) ::
  (nat_lit 759, Obj.mk (Value.type "tuple") none (Data.seq #[]) #[]) ::
  (nat_lit 761, Obj.mk (Value.type "tuple") none (Data.seq #[Value.str (Str.ofString "word") 1188, Value.str (Str.ofString "row") 1189, Value.str (Str.ofString "sign") 1190]) #[]) ::
  (nat_lit 762, Obj.mk (Value.type "tuple") none (Data.seq #[]) #[]) ::
  (nat_lit 764, Obj.mk (Value.type "code") none (Data.fields #[Value.str (Str.ofString "_law_strands") 1185, Value.str (Str.ofString "_law_strands") 1186, Value.str (Str.ofString "/claim/cut.py") 1187, Value.int 751 0, Value.int 1 0, Value.int 0 0, Value.int 0 0, Value.int 3 0, Value.ref 759, Value.bool true, Value.int 273 0, Value.ref 760, Value.none, Value.ref 761, Value.ref 762, Value.ref 763, Value.int 1191 0, Value.int 751 0, Value.str (Str.ofString "/claim/cut.py") 1192]) #[]) ::
  (nat_lit 765, Obj.mk (Value.type "function") none (Data.func (FuncData.mk (Str.ofString "_law_strands") (Str.ofString "_law_strands") f765.1.1 (FuncBody.stmts f765.1.2.1) f765.1.2.2 3 [] Value.none Value.none Value.none (Value.str (Str.ofString "law_nq0186_01") 1161) none (Value.ref 764) Value.none 0)) #[]) ::
  (nat_lit 766, Obj.mk (Value.type "tuple") none (Data.seq #[]) #[]) ::
  (nat_lit 768, Obj.mk (Value.type "tuple") none (Data.seq #[Value.str (Str.ofString "words") 1197, Value.str (Str.ofString "row") 1198, Value.str (Str.ofString "word") 1199]) #[]) ::
  (nat_lit 769, Obj.mk (Value.type "tuple") none (Data.seq #[]) #[]) ::
  (nat_lit 771, Obj.mk (Value.type "code") none (Data.fields #[Value.str (Str.ofString "_law_told") 1194, Value.str (Str.ofString "_law_told") 1195, Value.str (Str.ofString "/claim/cut.py") 1196, Value.int 760 0, Value.int 1 0, Value.int 0 0, Value.int 0 0, Value.int 3 0, Value.ref 766, Value.bool true, Value.int 273 0, Value.ref 767, Value.none, Value.ref 768, Value.ref 769, Value.ref 770, Value.int 1200 0, Value.int 760 0, Value.str (Str.ofString "/claim/cut.py") 1201]) #[]) ::
  (nat_lit 772, Obj.mk (Value.type "function") none (Data.func (FuncData.mk (Str.ofString "_law_told") (Str.ofString "_law_told") f772.1.1 (FuncBody.stmts f772.1.2.1) f772.1.2.2 3 [] Value.none Value.none Value.none (Value.str (Str.ofString "law_nq0186_01") 1161) none (Value.ref 771) Value.none 0)) #[]) ::
  (nat_lit 773, Obj.mk (Value.type "tuple") none (Data.seq #[]) #[]) ::
  (nat_lit 775, Obj.mk (Value.type "tuple") none (Data.seq #[Value.str (Str.ofString "thing") 1206, Value.str (Str.ofString "ahead") 1207, Value.str (Str.ofString "behind") 1208]) #[]) ::
  (nat_lit 776, Obj.mk (Value.type "tuple") none (Data.seq #[]) #[]) ::
  (nat_lit 778, Obj.mk (Value.type "code") none (Data.fields #[Value.str (Str.ofString "_law_sides") 1203, Value.str (Str.ofString "_law_sides") 1204, Value.str (Str.ofString "/claim/cut.py") 1205, Value.int 765 0, Value.int 1 0, Value.int 0 0, Value.int 0 0, Value.int 3 0, Value.ref 773, Value.bool true, Value.int 273 0, Value.ref 774, Value.none, Value.ref 775, Value.ref 776, Value.ref 777, Value.int 1209 0, Value.int 765 0, Value.str (Str.ofString "/claim/cut.py") 1210]) #[]) ::
  (nat_lit 779, Obj.mk (Value.type "function") none (Data.func (FuncData.mk (Str.ofString "_law_sides") (Str.ofString "_law_sides") f779.1.1 (FuncBody.stmts f779.1.2.1) f779.1.2.2 3 [] Value.none Value.none Value.none (Value.str (Str.ofString "law_nq0186_01") 1161) none (Value.ref 778) Value.none 0)) #[]) ::
  (nat_lit 780, Obj.mk (Value.type "tuple") none (Data.seq #[]) #[]) ::
  (nat_lit 783, Obj.mk (Value.type "code") none (Data.fields #[Value.str (Str.ofString "_law_due") 1212, Value.str (Str.ofString "_law_due") 1213, Value.str (Str.ofString "/claim/cut.py") 1214, Value.int 769 0, Value.int 2 0, Value.int 0 0, Value.int 0 0, Value.int 3 0, Value.ref 780, Value.bool true, Value.int 273 0, Value.ref 781, Value.none, Value.none, Value.none, Value.ref 782, Value.int 1215 0, Value.int 769 0, Value.str (Str.ofString "/claim/cut.py") 1216]) #[]) ::
  (nat_lit 784, Obj.mk (Value.type "function") none (Data.func (FuncData.mk (Str.ofString "_law_due") (Str.ofString "_law_due") f784.1.1 (FuncBody.stmts f784.1.2.1) f784.1.2.2 3 [] Value.none Value.none Value.none (Value.str (Str.ofString "law_nq0186_01") 1161) none (Value.ref 783) Value.none 0)) #[]) ::
  (nat_lit 785, Obj.mk (Value.type "tuple") none (Data.seq #[]) #[]) ::
  (nat_lit 788, Obj.mk (Value.type "code") none (Data.fields #[Value.str (Str.ofString "_law_read") 1218, Value.str (Str.ofString "_law_read") 1219, Value.str (Str.ofString "/claim/cut.py") 1220, Value.int 771 0, Value.int 1 0, Value.int 0 0, Value.int 0 0, Value.int 3 0, Value.ref 785, Value.bool true, Value.int 273 0, Value.ref 786, Value.none, Value.none, Value.none, Value.ref 787, Value.int 1221 0, Value.int 771 0, Value.str (Str.ofString "/claim/cut.py") 1222]) #[]) ::
  (nat_lit 789, Obj.mk (Value.type "function") none (Data.func (FuncData.mk (Str.ofString "_law_read") (Str.ofString "_law_read") f789.1.1 (FuncBody.stmts f789.1.2.1) f789.1.2.2 3 [] Value.none Value.none Value.none (Value.str (Str.ofString "law_nq0186_01") 1161) none (Value.ref 788) Value.none 0)) #[]) ::
  (nat_lit 790, Obj.mk (Value.type "tuple") none (Data.seq #[]) #[]) ::
  (nat_lit 793, Obj.mk (Value.type "code") none (Data.fields #[Value.str (Str.ofString "law") 1224, Value.str (Str.ofString "law") 1225, Value.str (Str.ofString "/claim/cut.py") 1226, Value.int 777 0, Value.int 1 0, Value.int 0 0, Value.int 0 0, Value.int 3 0, Value.ref 790, Value.bool true, Value.int 273 0, Value.ref 791, Value.none, Value.none, Value.none, Value.ref 792, Value.int 1227 0, Value.int 777 0, Value.str (Str.ofString "/claim/cut.py") 1228]) #[]) ::
  (nat_lit 794, Obj.mk (Value.type "function") none (Data.func (FuncData.mk (Str.ofString "law") (Str.ofString "law") f794.1.1 (FuncBody.stmts f794.1.2.1) f794.1.2.2 3 [] Value.none Value.none Value.none (Value.str (Str.ofString "law_nq0186_01") 1161) none (Value.ref 793) Value.none 0)) #[]) ::
  []
noncomputable def asL : List Addr := nat_lit 2 :: nat_lit 3 :: nat_lit 40 :: nat_lit 42 :: nat_lit 43 :: nat_lit 45 :: nat_lit 46 :: nat_lit 54 :: nat_lit 56 :: nat_lit 57 :: nat_lit 59 :: nat_lit 60 :: nat_lit 69 :: nat_lit 70 :: nat_lit 71 :: nat_lit 81 :: nat_lit 83 :: nat_lit 84 :: nat_lit 86 :: nat_lit 87 :: nat_lit 89 :: nat_lit 90 :: nat_lit 91 :: nat_lit 92 :: nat_lit 93 :: nat_lit 104 :: nat_lit 105 :: nat_lit 116 :: nat_lit 117 :: nat_lit 156 :: nat_lit 346 :: nat_lit 347 :: nat_lit 357 :: nat_lit 358 :: nat_lit 360 :: nat_lit 361 :: nat_lit 363 :: nat_lit 364 :: nat_lit 365 :: nat_lit 367 :: nat_lit 368 :: nat_lit 370 :: nat_lit 371 :: nat_lit 372 :: nat_lit 374 :: nat_lit 375 :: nat_lit 377 :: nat_lit 378 :: nat_lit 400 :: nat_lit 408 :: nat_lit 416 :: nat_lit 424 :: nat_lit 432 :: nat_lit 533 :: nat_lit 534 :: nat_lit 536 :: nat_lit 537 :: nat_lit 539 :: nat_lit 540 :: nat_lit 593 :: nat_lit 594 :: nat_lit 646 :: nat_lit 647 :: nat_lit 649 :: nat_lit 650 :: nat_lit 652 :: nat_lit 653 :: nat_lit 654 :: nat_lit 656 :: nat_lit 657 :: nat_lit 659 :: nat_lit 660 :: nat_lit 661 :: nat_lit 684 :: nat_lit 686 :: nat_lit 687 :: nat_lit 689 :: nat_lit 690 :: nat_lit 691 :: nat_lit 693 :: nat_lit 694 :: nat_lit 696 :: nat_lit 697 :: nat_lit 713 :: nat_lit 715 :: nat_lit 716 :: nat_lit 718 :: nat_lit 719 :: nat_lit 720 :: nat_lit 722 :: nat_lit 723 :: nat_lit 725 :: nat_lit 726 :: nat_lit 728 :: nat_lit 729 :: nat_lit 730 :: nat_lit 731 :: nat_lit 734 :: nat_lit 735 :: nat_lit 737 :: nat_lit 738 :: nat_lit 740 :: nat_lit 741 :: nat_lit 742 :: nat_lit 744 :: nat_lit 745 :: nat_lit 747 :: nat_lit 748 :: nat_lit 749 :: nat_lit 752 :: nat_lit 753 :: nat_lit 754 :: nat_lit 757 :: nat_lit 758 :: nat_lit 759 :: nat_lit 761 :: nat_lit 762 :: nat_lit 764 :: nat_lit 765 :: nat_lit 766 :: nat_lit 768 :: nat_lit 769 :: nat_lit 771 :: nat_lit 772 :: nat_lit 773 :: nat_lit 775 :: nat_lit 776 :: nat_lit 778 :: nat_lit 779 :: nat_lit 780 :: nat_lit 783 :: nat_lit 784 :: nat_lit 785 :: nat_lit 788 :: nat_lit 789 :: nat_lit 790 :: nat_lit 793 :: nat_lit 794 :: []
noncomputable def tree0 (P : Params) : BT := (BT.node (boot_o_0 P) (BT.node (Obj.mk (Value.type "dict") none (Data.dict #[DictEntry.mk (PyData.keyHash P (Str.ofString "builtins")) (Value.str (Str.ofString "builtins") 162) (Value.ref 4), DictEntry.mk (PyData.keyHash P (Str.ofString "__main__")) (Value.str (Str.ofString "__main__") 163) (Value.ref 5), DictEntry.mk (PyData.keyHash P (Str.mk (Array.mk (95 :: 99 :: 111 :: 108 :: 108 :: 101 :: 99 :: 116 :: 105 :: 111 :: 110 :: 115 :: [])))) (Value.str (Str.mk (Array.mk (95 :: 99 :: 111 :: 108 :: 108 :: 101 :: 99 :: 116 :: 105 :: 111 :: 110 :: 115 :: []))) 246) (Value.ref 13)] 3) #[]) (BT.node (Obj.mk (Value.type "dict") none (Data.dict #[DictEntry.mk (PyData.keyHash P (Str.ofString "__name__")) (Value.str (Str.ofString "__name__") 165) (Value.str (Str.ofString "__main__") 164), DictEntry.mk (PyData.keyHash P (Str.ofString "__doc__")) (Value.str (Str.ofString "__doc__") 166) Value.none, DictEntry.mk (PyData.keyHash P (Str.mk (Array.mk (95 :: 95 :: 112 :: 97 :: 99 :: 107 :: 97 :: 103 :: 101 :: 95 :: 95 :: [])))) (Value.str (Str.mk (Array.mk (95 :: 95 :: 112 :: 97 :: 99 :: 107 :: 97 :: 103 :: 101 :: 95 :: 95 :: []))) 167) Value.none, DictEntry.mk (PyData.keyHash P (Str.mk (Array.mk (95 :: 95 :: 108 :: 111 :: 97 :: 100 :: 101 :: 114 :: 95 :: 95 :: [])))) (Value.str (Str.mk (Array.mk (95 :: 95 :: 108 :: 111 :: 97 :: 100 :: 101 :: 114 :: 95 :: 95 :: []))) 168) (Value.builtin "__main__.__loader__#\x6fpaque"), DictEntry.mk (PyData.keyHash P (Str.ofString "__spec__")) (Value.str (Str.ofString "__spec__") 169) Value.none, DictEntry.mk (PyData.keyHash P (Str.mk (Array.mk (95 :: 95 :: 97 :: 110 :: 110 :: 111 :: 116 :: 97 :: 116 :: 105 :: 111 :: 110 :: 115 :: 95 :: 95 :: [])))) (Value.str (Str.mk (Array.mk (95 :: 95 :: 97 :: 110 :: 110 :: 111 :: 116 :: 97 :: 116 :: 105 :: 111 :: 110 :: 115 :: 95 :: 95 :: []))) 170) (Value.ref 6), DictEntry.mk (PyData.keyHash P (Str.mk (Array.mk (95 :: 95 :: 98 :: 117 :: 105 :: 108 :: 116 :: 105 :: 110 :: 115 :: 95 :: 95 :: [])))) (Value.str (Str.mk (Array.mk (95 :: 95 :: 98 :: 117 :: 105 :: 108 :: 116 :: 105 :: 110 :: 115 :: 95 :: 95 :: []))) 171) (Value.ref 4), DictEntry.mk (PyData.keyHash P (Str.ofString "__file__")) (Value.str (Str.ofString "__file__") 173) (Value.str (Str.mk (Array.mk (47 :: 99 :: 108 :: 97 :: 105 :: 109 :: 47 :: 99 :: 117 :: 116 :: 46 :: 112 :: 121 :: []))) 172), DictEntry.mk (PyData.keyHash P (Str.mk (Array.mk (95 :: 95 :: 99 :: 97 :: 99 :: 104 :: 101 :: 100 :: 95 :: 95 :: [])))) (Value.str (Str.mk (Array.mk (95 :: 95 :: 99 :: 97 :: 99 :: 104 :: 101 :: 100 :: 95 :: 95 :: []))) 174) Value.none, DictEntry.mk (PyData.keyHash P (Str.ofString "deque")) (Value.str (Str.ofString "deque") 272) (Value.type "collections.deque")] 10) #[]) (BT.node (boot_o_7 P) (BT.node (Obj.mk (Value.type "type") none (Data.cls (ClassData.mk (Str.mk (Array.mk (66 :: 117 :: 105 :: 108 :: 116 :: 105 :: 110 :: 73 :: 109 :: 112 :: 111 :: 114 :: 116 :: 101 :: 114 :: []))) [Value.type "object"] [Value.ref 15, Value.type "object"] 14 (Str.mk (Array.mk (66 :: 117 :: 105 :: 108 :: 116 :: 105 :: 110 :: 73 :: 109 :: 112 :: 111 :: 114 :: 116 :: 101 :: 114 :: []))) true [] [] false none false)) #[]) BT.nil BT.nil) (BT.node (Obj.mk (Value.type "type") none (Data.cls (ClassData.mk (Str.mk (Array.mk (77 :: 111 :: 100 :: 117 :: 108 :: 101 :: 83 :: 112 :: 101 :: 99 :: []))) [Value.type "object"] [Value.ref 23, Value.type "object"] 22 (Str.mk (Array.mk (77 :: 111 :: 100 :: 117 :: 108 :: 101 :: 83 :: 112 :: 101 :: 99 :: []))) true [] [] false none false)) #[]) BT.nil BT.nil)) (BT.node (Obj.mk (Value.type "tuple") none (Data.seq #[Value.str (Str.ofString "deque") 182]) #[]) (BT.node (Obj.mk Value.none none (Data.seq #[Value.int 14 0, Value.str (Str.mk (Array.mk (6 :: 191 :: 10 :: 95 :: 95 :: 109 :: 111 :: 100 :: 117 :: 108 :: 101 :: 95 :: 95 :: 6 :: 188 :: 17 :: 95 :: 102 :: 114 :: 111 :: 122 :: 101 :: 110 :: 95 :: 105 :: 109 :: 112 :: 111 :: 114 :: 116 :: 108 :: 105 :: 98 :: 6 :: 192 :: 15 :: 95 :: 95 :: 102 :: 105 :: 114 :: 115 :: 116 :: 108 :: 105 :: 110 :: 101 :: 110 :: 111 :: 95 :: 95 :: 4 :: 189 :: 0 :: 971 :: 6 :: 193 :: 7 :: 95 :: 95 :: 100 :: 111 :: 99 :: 95 :: 95 :: 9 :: 52 :: 95 :: 102 :: 114 :: 111 :: 122 :: 101 :: 110 :: 95 :: 105 :: 109 :: 112 :: 111 :: 114 :: 116 :: 108 :: 105 :: 98 :: 46 :: 66 :: 117 :: 105 :: 108 :: 116 :: 105 :: 110 :: 73 :: 109 :: 112 :: 111 :: 114 :: 116 :: 101 :: 114 :: 46 :: 95 :: 95 :: 100 :: 111 :: 99 :: 95 :: 95 :: 58 :: 115 :: 116 :: 114 :: 35 :: 111 :: 112 :: 97 :: 113 :: 117 :: 101 :: 6 :: 194 :: 7 :: 95 :: 79 :: 82 :: 73 :: 71 :: 73 :: 78 :: 6 :: 190 :: 8 :: 98 :: 117 :: 105 :: 108 :: 116 :: 45 :: 105 :: 110 :: 6 :: 195 :: 9 :: 102 :: 105 :: 110 :: 100 :: 95 :: 115 :: 112 :: 101 :: 99 :: 9 :: 50 :: 95 :: 102 :: 114 :: 111 :: 122 :: 101 :: 110 :: 95 :: 105 :: 109 :: 112 :: 111 :: 114 :: 116 :: 108 :: 105 :: 98 :: 46 :: 66 :: 117 :: 105 :: 108 :: 116 :: 105 :: 110 :: 73 :: 109 :: 112 :: 111 :: 114 :: 116 :: 101 :: 114 :: 46 :: 102 :: 105 :: 110 :: 100 :: 95 :: 115 :: 112 :: 101 :: 99 :: 35 :: 111 :: 112 :: 97 :: 113 :: 117 :: 101 :: 6 :: 196 :: 13 :: 99 :: 114 :: 101 :: 97 :: 116 :: 101 :: 95 :: 109 :: 111 :: 100 :: 117 :: 108 :: 101 :: 9 :: 54 :: 95 :: 102 :: 114 :: 111 :: 122 :: 101 :: 110 :: 95 :: 105 :: 109 :: 112 :: 111 :: 114 :: 116 :: 108 :: 105 :: 98 :: 46 :: 66 :: 117 :: 105 :: 108 :: 116 :: 105 :: 110 :: 73 :: 109 :: 112 :: 111 :: 114 :: 116 :: 101 :: 114 :: 46 :: 99 :: 114 :: 101 :: 97 :: 116 :: 101 :: 95 :: 109 :: 111 :: 100 :: 117 :: 108 :: 101 :: 35 :: 111 :: 112 :: 97 :: 113 :: 117 :: 101 :: 6 :: 197 :: 11 :: 101 :: 120 :: 101 :: 99 :: 95 :: 109 :: 111 :: 100 :: 117 :: 108 :: 101 :: 9 :: 52 :: 95 :: 102 :: 114 :: 111 :: 122 :: 101 :: 110 :: 95 :: 105 :: 109 :: 112 :: 111 :: 114 :: 116 :: 108 :: 105 :: 98 :: 46 :: 66 :: 117 :: 105 :: 108 :: 116 :: 105 :: 110 :: 73 :: 109 :: 112 :: 111 :: 114 :: 116 :: 101 :: 114 :: 46 :: 101 :: 120 :: 101 :: 99 :: 95 :: 109 :: 111 :: 100 :: 117 :: 108 :: 101 :: 35 :: 111 :: 112 :: 97 :: 113 :: 117 :: 101 :: 6 :: 198 :: 8 :: 103 :: 101 :: 116 :: 95 :: 99 :: 111 :: 100 :: 101 :: 9 :: 49 :: 95 :: 102 :: 114 :: 111 :: 122 :: 101 :: 110 :: 95 :: 105 :: 109 :: 112 :: 111 :: 114 :: 116 :: 108 :: 105 :: 98 :: 46 :: 66 :: 117 :: 105 :: 108 :: 116 :: 105 :: 110 :: 73 :: 109 :: 112 :: 111 :: 114 :: 116 :: 101 :: 114 :: 46 :: 103 :: 101 :: 116 :: 95 :: 99 :: 111 :: 100 :: 101 :: 35 :: 111 :: 112 :: 97 :: 113 :: 117 :: 101 :: 6 :: 199 :: 10 :: 103 :: 101 :: 116 :: 95 :: 115 :: 111 :: 117 :: 114 :: 99 :: 101 :: 9 :: 51 :: 95 :: 102 :: 114 :: 111 :: 122 :: 101 :: 110 :: 95 :: 105 :: 109 :: 112 :: 111 :: 114 :: 116 :: 108 :: 105 :: 98 :: 46 :: 66 :: 117 :: 105 :: 108 :: 116 :: 105 :: 110 :: 73 :: 109 :: 112 :: 111 :: 114 :: 116 :: 101 :: 114 :: 46 :: 103 :: 101 :: 116 :: 95 :: 115 :: 111 :: 117 :: 114 :: 99 :: 101 :: 35 :: 111 :: 112 :: 97 :: 113 :: 117 :: 101 :: 6 :: 200 :: 10 :: 105 :: 115 :: 95 :: 112 :: 97 :: 99 :: 107 :: 97 :: 103 :: 101 :: 9 :: 51 :: 95 :: 102 :: 114 :: 111 :: 122 :: 101 :: 110 :: 95 :: 105 :: 109 :: 112 :: 111 :: 114 :: 116 :: 108 :: 105 :: 98 :: 46 :: 66 :: 117 :: 105 :: 108 :: 116 :: 105 :: 110 :: 73 :: 109 :: 112 :: 111 :: 114 :: 116 :: 101 :: 114 :: 46 :: 105 :: 115 :: 95 :: 112 :: 97 :: 99 :: 107 :: 97 :: 103 :: 101 :: 35 :: 111 :: 112 :: 97 :: 113 :: 117 :: 101 :: 6 :: 201 :: 11 :: 108 :: 111 :: 97 :: 100 :: 95 :: 109 :: 111 :: 100 :: 117 :: 108 :: 101 :: 9 :: 52 :: 95 :: 102 :: 114 :: 111 :: 122 :: 101 :: 110 :: 95 :: 105 :: 109 :: 112 :: 111 :: 114 :: 116 :: 108 :: 105 :: 98 :: 46 :: 66 :: 117 :: 105 :: 108 :: 116 :: 105 :: 110 :: 73 :: 109 :: 112 :: 111 :: 114 :: 116 :: 101 :: 114 :: 46 :: 108 :: 111 :: 97 :: 100 :: 95 :: 109 :: 111 :: 100 :: 117 :: 108 :: 101 :: 35 :: 111 :: 112 :: 97 :: 113 :: 117 :: 101 :: 6 :: 202 :: 21 :: 95 :: 95 :: 115 :: 116 :: 97 :: 116 :: 105 :: 99 :: 95 :: 97 :: 116 :: 116 :: 114 :: 105 :: 98 :: 117 :: 116 :: 101 :: 115 :: 95 :: 95 :: 4 :: 0 :: 0 :: 16 :: 6 :: 204 :: 8 :: 95 :: 95 :: 100 :: 105 :: 99 :: 116 :: 95 :: 95 :: 4 :: 0 :: 0 :: 17 :: 6 :: 206 :: 11 :: 95 :: 95 :: 119 :: 101 :: 97 :: 107 :: 114 :: 101 :: 102 :: 95 :: 95 :: 4 :: 0 :: 0 :: 18 :: []))) 0, Value.bool true, Value.bool true, Value.str (Str.ofString "") 207, Value.int 22 0, Value.str (Str.mk (Array.mk (6 :: 229 :: 10 :: 95 :: 95 :: 109 :: 111 :: 100 :: 117 :: 108 :: 101 :: 95 :: 95 :: 6 :: 219 :: 17 :: 95 :: 102 :: 114 :: 111 :: 122 :: 101 :: 110 :: 95 :: 105 :: 109 :: 112 :: 111 :: 114 :: 116 :: 108 :: 105 :: 98 :: 6 :: 230 :: 15 :: 95 :: 95 :: 102 :: 105 :: 114 :: 115 :: 116 :: 108 :: 105 :: 110 :: 101 :: 110 :: 111 :: 95 :: 95 :: 4 :: 220 :: 0 :: 562 :: 6 :: 231 :: 7 :: 95 :: 95 :: 100 :: 111 :: 99 :: 95 :: 95 :: 9 :: 47 :: 95 :: 102 :: 114 :: 111 :: 122 :: 101 :: 110 :: 95 :: 105 :: 109 :: 112 :: 111 :: 114 :: 116 :: 108 :: 105 :: 98 :: 46 :: 77 :: 111 :: 100 :: 117 :: 108 :: 101 :: 83 :: 112 :: 101 :: 99 :: 46 :: 95 :: 95 :: 100 :: 111 :: 99 :: 95 :: 95 :: 58 :: 115 :: 116 :: 114 :: 35 :: 111 :: 112 :: 97 :: 113 :: 117 :: 101 :: 6 :: 232 :: 8 :: 95 :: 95 :: 105 :: 110 :: 105 :: 116 :: 95 :: 95 :: 9 :: 44 :: 95 :: 102 :: 114 :: 111 :: 122 :: 101 :: 110 :: 95 :: 105 :: 109 :: 112 :: 111 :: 114 :: 116 :: 108 :: 105 :: 98 :: 46 :: 77 :: 111 :: 100 :: 117 :: 108 :: 101 :: 83 :: 112 :: 101 :: 99 :: 46 :: 95 :: 95 :: 105 :: 110 :: 105 :: 116 :: 95 :: 95 :: 35 :: 111 :: 112 :: 97 :: 113 :: 117 :: 101 :: 6 :: 233 :: 8 :: 95 :: 95 :: 114 :: 101 :: 112 :: 114 :: 95 :: 95 :: 9 :: 44 :: 95 :: 102 :: 114 :: 111 :: 122 :: 101 :: 110 :: 95 :: 105 :: 109 :: 112 :: 111 :: 114 :: 116 :: 108 :: 105 :: 98 :: 46 :: 77 :: 111 :: 100 :: 117 :: 108 :: 101 :: 83 :: 112 :: 101 :: 99 :: 46 :: 95 :: 95 :: 114 :: 101 :: 112 :: 114 :: 95 :: 95 :: 35 :: 111 :: 112 :: 97 :: 113 :: 117 :: 101 :: 6 :: 234 :: 6 :: 95 :: 95 :: 101 :: 113 :: 95 :: 95 :: 9 :: 42 :: 95 :: 102 :: 114 :: 111 :: 122 :: 101 :: 110 :: 95 :: 105 :: 109 :: 112 :: 111 :: 114 :: 116 :: 108 :: 105 :: 98 :: 46 :: 77 :: 111 :: 100 :: 117 :: 108 :: 101 :: 83 :: 112 :: 101 :: 99 :: 46 :: 95 :: 95 :: 101 :: 113 :: 95 :: 95 :: 35 :: 111 :: 112 :: 97 :: 113 :: 117 :: 101 :: 6 :: 235 :: 6 :: 99 :: 97 :: 99 :: 104 :: 101 :: 100 :: 9 :: 42 :: 95 :: 102 :: 114 :: 111 :: 122 :: 101 :: 110 :: 95 :: 105 :: 109 :: 112 :: 111 :: 114 :: 116 :: 108 :: 105 :: 98 :: 46 :: 77 :: 111 :: 100 :: 117 :: 108 :: 101 :: 83 :: 112 :: 101 :: 99 :: 46 :: 99 :: 97 :: 99 :: 104 :: 101 :: 100 :: 35 :: 111 :: 112 :: 97 :: 113 :: 117 :: 101 :: 6 :: 236 :: 6 :: 112 :: 97 :: 114 :: 101 :: 110 :: 116 :: 9 :: 42 :: 95 :: 102 :: 114 :: 111 :: 122 :: 101 :: 110 :: 95 :: 105 :: 109 :: 112 :: 111 :: 114 :: 116 :: 108 :: 105 :: 98 :: 46 :: 77 :: 111 :: 100 :: 117 :: 108 :: 101 :: 83 :: 112 :: 101 :: 99 :: 46 :: 112 :: 97 :: 114 :: 101 :: 110 :: 116 :: 35 :: 111 :: 112 :: 97 :: 113 :: 117 :: 101 :: 6 :: 237 :: 12 :: 104 :: 97 :: 115 :: 95 :: 108 :: 111 :: 99 :: 97 :: 116 :: 105 :: 111 :: 110 :: 9 :: 48 :: 95 :: 102 :: 114 :: 111 :: 122 :: 101 :: 110 :: 95 :: 105 :: 109 :: 112 :: 111 :: 114 :: 116 :: 108 :: 105 :: 98 :: 46 :: 77 :: 111 :: 100 :: 117 :: 108 :: 101 :: 83 :: 112 :: 101 :: 99 :: 46 :: 104 :: 97 :: 115 :: 95 :: 108 :: 111 :: 99 :: 97 :: 116 :: 105 :: 111 :: 110 :: 35 :: 111 :: 112 :: 97 :: 113 :: 117 :: 101 :: 6 :: 238 :: 21 :: 95 :: 95 :: 115 :: 116 :: 97 :: 116 :: 105 :: 99 :: 95 :: 97 :: 116 :: 116 :: 114 :: 105 :: 98 :: 117 :: 116 :: 101 :: 115 :: 95 :: 95 :: 4 :: 0 :: 0 :: 24 :: 6 :: 240 :: 8 :: 95 :: 95 :: 100 :: 105 :: 99 :: 116 :: 95 :: 95 :: 4 :: 0 :: 0 :: 25 :: 6 :: 242 :: 11 :: 95 :: 95 :: 119 :: 101 :: 97 :: 107 :: 114 :: 101 :: 102 :: 95 :: 95 :: 4 :: 0 :: 0 :: 26 :: 6 :: 243 :: 8 :: 95 :: 95 :: 104 :: 97 :: 115 :: 104 :: 95 :: 95 :: 0 :: []))) 0, Value.bool true, Value.bool true, Value.str (Str.ofString "") 244] 1) #[]) BT.nil BT.nil) (BT.node (Obj.mk (Value.ref 23) (some 21) Data.plain #[]) BT.nil BT.nil))) (BT.node (boot_o_5 P) (BT.node (boot_o_9 P) (BT.node (Obj.mk (Value.type "getset_descriptor") none (Data.fields #[Value.str (Str.ofString "__dict__") 203, Value.ref 15, Value.builtin "function.__dict__", Value.builtin "function.__dict__#set"]) #[]) BT.nil BT.nil) (BT.node (Obj.mk (Value.type "getset_descriptor") none (Data.fields #[Value.str (Str.ofString "__dict__") 239, Value.ref 23, Value.builtin "function.__dict__", Value.builtin "function.__dict__#set"]) #[]) BT.nil BT.nil)) (BT.node (Obj.mk (Value.type "module") (some 12) Data.plain #[]) (BT.node (Obj.mk (Value.type "dict") none (Data.dict #[DictEntry.mk (PyData.keyHash P (Str.ofString "name")) (Value.str (Str.ofString "name") 210) (Value.str (Str.mk (Array.mk (95 :: 99 :: 111 :: 108 :: 108 :: 101 :: 99 :: 116 :: 105 :: 111 :: 110 :: 115 :: []))) 209), DictEntry.mk (PyData.keyHash P (Str.ofString "loader")) (Value.str (Str.ofString "loader") 211) (Value.ref 15), DictEntry.mk (PyData.keyHash P (Str.ofString "origin")) (Value.str (Str.ofString "origin") 212) (Value.str (Str.ofString "built-in") 186), DictEntry.mk (PyData.keyHash P (Str.mk (Array.mk (108 :: 111 :: 97 :: 100 :: 101 :: 114 :: 95 :: 115 :: 116 :: 97 :: 116 :: 101 :: [])))) (Value.str (Str.mk (Array.mk (108 :: 111 :: 97 :: 100 :: 101 :: 114 :: 95 :: 115 :: 116 :: 97 :: 116 :: 101 :: []))) 213) Value.none, DictEntry.mk (PyData.keyHash P (Str.mk (Array.mk (115 :: 117 :: 98 :: 109 :: 111 :: 100 :: 117 :: 108 :: 101 :: 95 :: 115 :: 101 :: 97 :: 114 :: 99 :: 104 :: 95 :: 108 :: 111 :: 99 :: 97 :: 116 :: 105 :: 111 :: 110 :: 115 :: [])))) (Value.str (Str.mk (Array.mk (115 :: 117 :: 98 :: 109 :: 111 :: 100 :: 117 :: 108 :: 101 :: 95 :: 115 :: 101 :: 97 :: 114 :: 99 :: 104 :: 95 :: 108 :: 111 :: 99 :: 97 :: 116 :: 105 :: 111 :: 110 :: 115 :: []))) 214) Value.none, DictEntry.mk (PyData.keyHash P (Str.mk (Array.mk (95 :: 117 :: 110 :: 105 :: 110 :: 105 :: 116 :: 105 :: 97 :: 108 :: 105 :: 122 :: 101 :: 100 :: 95 :: 115 :: 117 :: 98 :: 109 :: 111 :: 100 :: 117 :: 108 :: 101 :: 115 :: [])))) (Value.str (Str.mk (Array.mk (95 :: 117 :: 110 :: 105 :: 110 :: 105 :: 116 :: 105 :: 97 :: 108 :: 105 :: 122 :: 101 :: 100 :: 95 :: 115 :: 117 :: 98 :: 109 :: 111 :: 100 :: 117 :: 108 :: 101 :: 115 :: []))) 215) (Value.ref 20), DictEntry.mk (PyData.keyHash P (Str.mk (Array.mk (95 :: 115 :: 101 :: 116 :: 95 :: 102 :: 105 :: 108 :: 101 :: 97 :: 116 :: 116 :: 114 :: [])))) (Value.str (Str.mk (Array.mk (95 :: 115 :: 101 :: 116 :: 95 :: 102 :: 105 :: 108 :: 101 :: 97 :: 116 :: 116 :: 114 :: []))) 216) (Value.bool false), DictEntry.mk (PyData.keyHash P (Str.ofString "_cached")) (Value.str (Str.ofString "_cached") 217) Value.none, DictEntry.mk (PyData.keyHash P (Str.mk (Array.mk (95 :: 105 :: 110 :: 105 :: 116 :: 105 :: 97 :: 108 :: 105 :: 122 :: 105 :: 110 :: 103 :: [])))) (Value.str (Str.mk (Array.mk (95 :: 105 :: 110 :: 105 :: 116 :: 105 :: 97 :: 108 :: 105 :: 122 :: 105 :: 110 :: 103 :: []))) 245) (Value.bool false)] 9) #[]) BT.nil BT.nil) BT.nil))) (BT.node (Obj.mk Value.none none (Data.dict #[DictEntry.mk (PyData.keyHash P (Str.mk (Array.mk (105 :: 109 :: 112 :: 111 :: 114 :: 116 :: 46 :: 108 :: 111 :: 97 :: 100 :: 101 :: 100 :: 46 :: 95 :: 99 :: 111 :: 108 :: 108 :: 101 :: 99 :: 116 :: 105 :: 111 :: 110 :: 115 :: [])))) (Value.str (Str.mk (Array.mk (105 :: 109 :: 112 :: 111 :: 114 :: 116 :: 46 :: 108 :: 111 :: 97 :: 100 :: 101 :: 100 :: 46 :: 95 :: 99 :: 111 :: 108 :: 108 :: 101 :: 99 :: 116 :: 105 :: 111 :: 110 :: 115 :: []))) 185) (Value.bool true), DictEntry.mk (PyData.keyHash P (Str.mk (Array.mk (99 :: 108 :: 97 :: 115 :: 115 :: 46 :: 95 :: 102 :: 114 :: 111 :: 122 :: 101 :: 110 :: 95 :: 105 :: 109 :: 112 :: 111 :: 114 :: 116 :: 108 :: 105 :: 98 :: 46 :: 66 :: 117 :: 105 :: 108 :: 116 :: 105 :: 110 :: 73 :: 109 :: 112 :: 111 :: 114 :: 116 :: 101 :: 114 :: [])))) (Value.str (Str.mk (Array.mk (99 :: 108 :: 97 :: 115 :: 115 :: 46 :: 95 :: 102 :: 114 :: 111 :: 122 :: 101 :: 110 :: 95 :: 105 :: 109 :: 112 :: 111 :: 114 :: 116 :: 108 :: 105 :: 98 :: 46 :: 66 :: 117 :: 105 :: 108 :: 116 :: 105 :: 110 :: 73 :: 109 :: 112 :: 111 :: 114 :: 116 :: 101 :: 114 :: []))) 187) (Value.ref 15), DictEntry.mk (PyData.keyHash P (Str.mk (Array.mk (119 :: 97 :: 116 :: 99 :: 104 :: 101 :: 100 :: 46 :: 105 :: 109 :: 112 :: 111 :: 114 :: 116 :: [])))) (Value.str (Str.mk (Array.mk (119 :: 97 :: 116 :: 99 :: 104 :: 101 :: 100 :: 46 :: 105 :: 109 :: 112 :: 111 :: 114 :: 116 :: []))) 208) (Value.ref 19), DictEntry.mk (PyData.keyHash P (Str.mk (Array.mk (99 :: 108 :: 97 :: 115 :: 115 :: 46 :: 95 :: 102 :: 114 :: 111 :: 122 :: 101 :: 110 :: 95 :: 105 :: 109 :: 112 :: 111 :: 114 :: 116 :: 108 :: 105 :: 98 :: 46 :: 77 :: 111 :: 100 :: 117 :: 108 :: 101 :: 83 :: 112 :: 101 :: 99 :: [])))) (Value.str (Str.mk (Array.mk (99 :: 108 :: 97 :: 115 :: 115 :: 46 :: 95 :: 102 :: 114 :: 111 :: 122 :: 101 :: 110 :: 95 :: 105 :: 109 :: 112 :: 111 :: 114 :: 116 :: 108 :: 105 :: 98 :: 46 :: 77 :: 111 :: 100 :: 117 :: 108 :: 101 :: 83 :: 112 :: 101 :: 99 :: []))) 218) (Value.ref 23), DictEntry.mk (PyData.keyHash P (Str.mk (Array.mk (115 :: 121 :: 115 :: 46 :: 109 :: 111 :: 100 :: 117 :: 108 :: 101 :: 115 :: 46 :: 98 :: 111 :: 111 :: 107 :: 101 :: 100 :: 45 :: 101 :: 112 :: 111 :: 99 :: 104 :: [])))) (Value.str (Str.mk (Array.mk (115 :: 121 :: 115 :: 46 :: 109 :: 111 :: 100 :: 117 :: 108 :: 101 :: 115 :: 46 :: 98 :: 111 :: 111 :: 107 :: 101 :: 100 :: 45 :: 101 :: 112 :: 111 :: 99 :: 104 :: []))) 247) (Value.int 3 0), DictEntry.mk (PyData.keyHash P (Str.mk (Array.mk (115 :: 121 :: 115 :: 46 :: 109 :: 111 :: 100 :: 117 :: 108 :: 101 :: 115 :: 46 :: 108 :: 97 :: 110 :: 100 :: 101 :: 100 :: 46 :: 95 :: 99 :: 111 :: 108 :: 108 :: 101 :: 99 :: 116 :: 105 :: 111 :: 110 :: 115 :: [])))) (Value.str (Str.mk (Array.mk (115 :: 121 :: 115 :: 46 :: 109 :: 111 :: 100 :: 117 :: 108 :: 101 :: 115 :: 46 :: 108 :: 97 :: 110 :: 100 :: 101 :: 100 :: 46 :: 95 :: 99 :: 111 :: 108 :: 108 :: 101 :: 99 :: 116 :: 105 :: 111 :: 110 :: 115 :: []))) 248) (Value.bool true), DictEntry.mk (PyData.keyHash P (Str.mk (Array.mk (105 :: 109 :: 112 :: 111 :: 114 :: 116 :: 46 :: 108 :: 97 :: 116 :: 101 :: 114 :: 45 :: 108 :: 97 :: 105 :: 100 :: 46 :: 95 :: 99 :: 111 :: 108 :: 108 :: 101 :: 99 :: 116 :: 105 :: 111 :: 110 :: 115 :: [])))) (Value.str (Str.mk (Array.mk (105 :: 109 :: 112 :: 111 :: 114 :: 116 :: 46 :: 108 :: 97 :: 116 :: 101 :: 114 :: 45 :: 108 :: 97 :: 105 :: 100 :: 46 :: 95 :: 99 :: 111 :: 108 :: 108 :: 101 :: 99 :: 116 :: 105 :: 111 :: 110 :: 115 :: []))) 263) (Value.bool true), DictEntry.mk (PyData.keyHash P (Str.mk (Array.mk (119 :: 97 :: 116 :: 99 :: 104 :: 101 :: 100 :: 46 :: 108 :: 105 :: 98 :: 114 :: 97 :: 114 :: 121 :: [])))) (Value.str (Str.mk (Array.mk (119 :: 97 :: 116 :: 99 :: 104 :: 101 :: 100 :: 46 :: 108 :: 105 :: 98 :: 114 :: 97 :: 114 :: 121 :: []))) 265) (Value.ref 28), DictEntry.mk (PyData.keyHash P (Str.mk (Array.mk (119 :: 97 :: 116 :: 99 :: 104 :: 101 :: 100 :: 46 :: 108 :: 105 :: 98 :: 114 :: 97 :: 114 :: 121 :: 45 :: 111 :: 98 :: 106 :: 101 :: 99 :: 116 :: 115 :: [])))) (Value.str (Str.mk (Array.mk (119 :: 97 :: 116 :: 99 :: 104 :: 101 :: 100 :: 46 :: 108 :: 105 :: 98 :: 114 :: 97 :: 114 :: 121 :: 45 :: 111 :: 98 :: 106 :: 101 :: 99 :: 116 :: 115 :: []))) 0) (Value.str (Str.ofString "\x0d") 0), DictEntry.mk (PyData.keyHash P (Str.mk (Array.mk (119 :: 97 :: 116 :: 99 :: 104 :: 101 :: 100 :: 46 :: 108 :: 105 :: 98 :: 114 :: 97 :: 114 :: 121 :: 45 :: 100 :: 101 :: 101 :: 112 :: 46 :: 95 :: 99 :: 111 :: 108 :: 108 :: 101 :: 99 :: 116 :: 105 :: 111 :: 110 :: 115 :: [])))) (Value.str (Str.mk (Array.mk (119 :: 97 :: 116 :: 99 :: 104 :: 101 :: 100 :: 46 :: 108 :: 105 :: 98 :: 114 :: 97 :: 114 :: 121 :: 45 :: 100 :: 101 :: 101 :: 112 :: 46 :: 95 :: 99 :: 111 :: 108 :: 108 :: 101 :: 99 :: 116 :: 105 :: 111 :: 110 :: 115 :: []))) 266) (Value.str (Str.mk (Array.mk (4 :: 0 :: 0 :: 12 :: 4 :: 0 :: 0 :: 12 :: 4 :: 0 :: 0 :: 3 :: 4 :: 0 :: 0 :: 12 :: 8 :: 4 :: 100 :: 105 :: 99 :: 116 :: 2 :: []))) 0)] 10) #[]) (BT.node (boot_o_4 P) (BT.node (boot_o_8 P) (BT.node (boot_o_7 P) BT.nil BT.nil) (BT.node (Obj.mk (Value.type "tuple") none (Data.seq #[Value.str (Str.ofString "_cached") 221, Value.str (Str.mk (Array.mk (95 :: 115 :: 101 :: 116 :: 95 :: 102 :: 105 :: 108 :: 101 :: 97 :: 116 :: 116 :: 114 :: []))) 222, Value.str (Str.mk (Array.mk (95 :: 117 :: 110 :: 105 :: 110 :: 105 :: 116 :: 105 :: 97 :: 108 :: 105 :: 122 :: 101 :: 100 :: 95 :: 115 :: 117 :: 98 :: 109 :: 111 :: 100 :: 117 :: 108 :: 101 :: 115 :: []))) 223, Value.str (Str.ofString "loader") 224, Value.str (Str.mk (Array.mk (108 :: 111 :: 97 :: 100 :: 101 :: 114 :: 95 :: 115 :: 116 :: 97 :: 116 :: 101 :: []))) 225, Value.str (Str.ofString "name") 226, Value.str (Str.ofString "origin") 227, Value.str (Str.mk (Array.mk (115 :: 117 :: 98 :: 109 :: 111 :: 100 :: 117 :: 108 :: 101 :: 95 :: 115 :: 101 :: 97 :: 114 :: 99 :: 104 :: 95 :: 108 :: 111 :: 99 :: 97 :: 116 :: 105 :: 111 :: 110 :: 115 :: []))) 228]) #[]) BT.nil BT.nil)) (BT.node (Obj.mk (Value.type "dict") none (Data.dict #[DictEntry.mk (PyData.keyHash P (Str.ofString "__name__")) (Value.str (Str.ofString "__name__") 250) (Value.str (Str.mk (Array.mk (95 :: 99 :: 111 :: 108 :: 108 :: 101 :: 99 :: 116 :: 105 :: 111 :: 110 :: 115 :: []))) 249), DictEntry.mk (PyData.keyHash P (Str.ofString "__doc__")) (Value.str (Str.ofString "__doc__") 251) (Value.builtin "off-the-table:_collections.__doc__:shared#\x6fpaque"), DictEntry.mk (PyData.keyHash P (Str.mk (Array.mk (95 :: 95 :: 112 :: 97 :: 99 :: 107 :: 97 :: 103 :: 101 :: 95 :: 95 :: [])))) (Value.str (Str.mk (Array.mk (95 :: 95 :: 112 :: 97 :: 99 :: 107 :: 97 :: 103 :: 101 :: 95 :: 95 :: []))) 253) (Value.str (Str.ofString "") 252), DictEntry.mk (PyData.keyHash P (Str.mk (Array.mk (95 :: 95 :: 108 :: 111 :: 97 :: 100 :: 101 :: 114 :: 95 :: 95 :: [])))) (Value.str (Str.mk (Array.mk (95 :: 95 :: 108 :: 111 :: 97 :: 100 :: 101 :: 114 :: 95 :: 95 :: []))) 254) (Value.builtin "off-the-table:_collections.__loader__:shared#\x6fpaque"), DictEntry.mk (PyData.keyHash P (Str.ofString "__spec__")) (Value.str (Str.ofString "__spec__") 255) (Value.builtin "off-the-table:_collections.__spec__:shared#\x6fpaque"), DictEntry.mk (PyData.keyHash P (Str.mk (Array.mk (95 :: 99 :: 111 :: 117 :: 110 :: 116 :: 95 :: 101 :: 108 :: 101 :: 109 :: 101 :: 110 :: 116 :: 115 :: [])))) (Value.str (Str.mk (Array.mk (95 :: 99 :: 111 :: 117 :: 110 :: 116 :: 95 :: 101 :: 108 :: 101 :: 109 :: 101 :: 110 :: 116 :: 115 :: []))) 256) (Value.builtin "_collections._count_elements"), DictEntry.mk (PyData.keyHash P (Str.ofString "deque")) (Value.str (Str.ofString "deque") 257) (Value.type "collections.deque"), DictEntry.mk (PyData.keyHash P (Str.mk (Array.mk (100 :: 101 :: 102 :: 97 :: 117 :: 108 :: 116 :: 100 :: 105 :: 99 :: 116 :: [])))) (Value.str (Str.mk (Array.mk (100 :: 101 :: 102 :: 97 :: 117 :: 108 :: 116 :: 100 :: 105 :: 99 :: 116 :: []))) 258) (Value.type "collections.defaultdict"), DictEntry.mk (PyData.keyHash P (Str.mk (Array.mk (95 :: 100 :: 101 :: 113 :: 117 :: 101 :: 95 :: 105 :: 116 :: 101 :: 114 :: 97 :: 116 :: 111 :: 114 :: [])))) (Value.str (Str.mk (Array.mk (95 :: 100 :: 101 :: 113 :: 117 :: 101 :: 95 :: 105 :: 116 :: 101 :: 114 :: 97 :: 116 :: 111 :: 114 :: []))) 259) (Value.builtin "off-the-table:_collections._deque_iterator:shared#\x6fpaque"), DictEntry.mk (PyData.keyHash P (Str.mk (Array.mk (95 :: 100 :: 101 :: 113 :: 117 :: 101 :: 95 :: 114 :: 101 :: 118 :: 101 :: 114 :: 115 :: 101 :: 95 :: 105 :: 116 :: 101 :: 114 :: 97 :: 116 :: 111 :: 114 :: [])))) (Value.str (Str.mk (Array.mk (95 :: 100 :: 101 :: 113 :: 117 :: 101 :: 95 :: 114 :: 101 :: 118 :: 101 :: 114 :: 115 :: 101 :: 95 :: 105 :: 116 :: 101 :: 114 :: 97 :: 116 :: 111 :: 114 :: []))) 260) (Value.builtin "off-the-table:_collections._deque_reverse_iterator:shared#\x6fpaque"), DictEntry.mk (PyData.keyHash P (Str.mk (Array.mk (95 :: 116 :: 117 :: 112 :: 108 :: 101 :: 103 :: 101 :: 116 :: 116 :: 101 :: 114 :: [])))) (Value.str (Str.mk (Array.mk (95 :: 116 :: 117 :: 112 :: 108 :: 101 :: 103 :: 101 :: 116 :: 116 :: 101 :: 114 :: []))) 261) (Value.type "collections._tuplegetter"), DictEntry.mk (PyData.keyHash P (Str.mk (Array.mk (79 :: 114 :: 100 :: 101 :: 114 :: 101 :: 100 :: 68 :: 105 :: 99 :: 116 :: [])))) (Value.str (Str.mk (Array.mk (79 :: 114 :: 100 :: 101 :: 114 :: 101 :: 100 :: 68 :: 105 :: 99 :: 116 :: []))) 262) (Value.type "collections.OrderedDict")] 12) #[]) (BT.node (Obj.mk (Value.type "list") none (Data.seq #[]) #[]) BT.nil BT.nil) (BT.node (Obj.mk Value.none none (Data.seq #[Value.int 12 0, Value.str (Str.mk (Array.mk (6 :: 250 :: 8 :: 95 :: 95 :: 110 :: 97 :: 109 :: 101 :: 95 :: 95 :: 6 :: 249 :: 12 :: 95 :: 99 :: 111 :: 108 :: 108 :: 101 :: 99 :: 116 :: 105 :: 111 :: 110 :: 115 :: 6 :: 251 :: 7 :: 95 :: 95 :: 100 :: 111 :: 99 :: 95 :: 95 :: 9 :: 31 :: 95 :: 99 :: 111 :: 108 :: 108 :: 101 :: 99 :: 116 :: 105 :: 111 :: 110 :: 115 :: 46 :: 95 :: 95 :: 100 :: 111 :: 99 :: 95 :: 95 :: 58 :: 115 :: 116 :: 114 :: 35 :: 111 :: 112 :: 97 :: 113 :: 117 :: 101 :: 6 :: 253 :: 11 :: 95 :: 95 :: 112 :: 97 :: 99 :: 107 :: 97 :: 103 :: 101 :: 95 :: 95 :: 6 :: 252 :: 0 :: 6 :: 254 :: 10 :: 95 :: 95 :: 108 :: 111 :: 97 :: 100 :: 101 :: 114 :: 95 :: 95 :: 4 :: 0 :: 0 :: 15 :: 6 :: 255 :: 8 :: 95 :: 95 :: 115 :: 112 :: 101 :: 99 :: 95 :: 95 :: 4 :: 0 :: 0 :: 27 :: 6 :: 256 :: 15 :: 95 :: 99 :: 111 :: 117 :: 110 :: 116 :: 95 :: 101 :: 108 :: 101 :: 109 :: 101 :: 110 :: 116 :: 115 :: 9 :: 28 :: 95 :: 99 :: 111 :: 108 :: 108 :: 101 :: 99 :: 116 :: 105 :: 111 :: 110 :: 115 :: 46 :: 95 :: 99 :: 111 :: 117 :: 110 :: 116 :: 95 :: 101 :: 108 :: 101 :: 109 :: 101 :: 110 :: 116 :: 115 :: 6 :: 257 :: 5 :: 100 :: 101 :: 113 :: 117 :: 101 :: 8 :: 17 :: 99 :: 111 :: 108 :: 108 :: 101 :: 99 :: 116 :: 105 :: 111 :: 110 :: 115 :: 46 :: 100 :: 101 :: 113 :: 117 :: 101 :: 6 :: 258 :: 11 :: 100 :: 101 :: 102 :: 97 :: 117 :: 108 :: 116 :: 100 :: 105 :: 99 :: 116 :: 8 :: 23 :: 99 :: 111 :: 108 :: 108 :: 101 :: 99 :: 116 :: 105 :: 111 :: 110 :: 115 :: 46 :: 100 :: 101 :: 102 :: 97 :: 117 :: 108 :: 116 :: 100 :: 105 :: 99 :: 116 :: 6 :: 259 :: 15 :: 95 :: 100 :: 101 :: 113 :: 117 :: 101 :: 95 :: 105 :: 116 :: 101 :: 114 :: 97 :: 116 :: 111 :: 114 :: 8 :: 27 :: 99 :: 111 :: 108 :: 108 :: 101 :: 99 :: 116 :: 105 :: 111 :: 110 :: 115 :: 46 :: 95 :: 100 :: 101 :: 113 :: 117 :: 101 :: 95 :: 105 :: 116 :: 101 :: 114 :: 97 :: 116 :: 111 :: 114 :: 6 :: 260 :: 23 :: 95 :: 100 :: 101 :: 113 :: 117 :: 101 :: 95 :: 114 :: 101 :: 118 :: 101 :: 114 :: 115 :: 101 :: 95 :: 105 :: 116 :: 101 :: 114 :: 97 :: 116 :: 111 :: 114 :: 8 :: 35 :: 99 :: 111 :: 108 :: 108 :: 101 :: 99 :: 116 :: 105 :: 111 :: 110 :: 115 :: 46 :: 95 :: 100 :: 101 :: 113 :: 117 :: 101 :: 95 :: 114 :: 101 :: 118 :: 101 :: 114 :: 115 :: 101 :: 95 :: 105 :: 116 :: 101 :: 114 :: 97 :: 116 :: 111 :: 114 :: 6 :: 261 :: 12 :: 95 :: 116 :: 117 :: 112 :: 108 :: 101 :: 103 :: 101 :: 116 :: 116 :: 101 :: 114 :: 8 :: 24 :: 99 :: 111 :: 108 :: 108 :: 101 :: 99 :: 116 :: 105 :: 111 :: 110 :: 115 :: 46 :: 95 :: 116 :: 117 :: 112 :: 108 :: 101 :: 103 :: 101 :: 116 :: 116 :: 101 :: 114 :: 6 :: 262 :: 11 :: 79 :: 114 :: 100 :: 101 :: 114 :: 101 :: 100 :: 68 :: 105 :: 99 :: 116 :: 8 :: 23 :: 99 :: 111 :: 108 :: 108 :: 101 :: 99 :: 116 :: 105 :: 111 :: 110 :: 115 :: 46 :: 79 :: 114 :: 100 :: 101 :: 114 :: 101 :: 100 :: 68 :: 105 :: 99 :: 116 :: []))) 0, Value.bool true, Value.bool false, Value.str (Str.mk (Array.mk (95 :: 99 :: 111 :: 108 :: 108 :: 101 :: 99 :: 116 :: 105 :: 111 :: 110 :: 115 :: []))) 264]) #[]) BT.nil BT.nil))) (BT.node (boot_o_6 P) (BT.node (boot_o_10 P) (BT.node (Obj.mk (Value.type "getset_descriptor") none (Data.fields #[Value.str (Str.mk (Array.mk (95 :: 95 :: 119 :: 101 :: 97 :: 107 :: 114 :: 101 :: 102 :: 95 :: 95 :: []))) 205, Value.ref 15, Value.builtin "ExceptionGroup.__weakref__", Value.none]) #[]) BT.nil BT.nil) (BT.node (Obj.mk (Value.type "getset_descriptor") none (Data.fields #[Value.str (Str.mk (Array.mk (95 :: 95 :: 119 :: 101 :: 97 :: 107 :: 114 :: 101 :: 102 :: 95 :: 95 :: []))) 241, Value.ref 23, Value.builtin "ExceptionGroup.__weakref__", Value.none]) #[]) BT.nil BT.nil)) (BT.node (Obj.mk (Value.type "dict") none (Data.dict #[DictEntry.mk (PyData.keyHash P (Str.mk (Array.mk (95 :: 95 :: 109 :: 111 :: 100 :: 117 :: 108 :: 101 :: 95 :: 95 :: [])))) (Value.str (Str.mk (Array.mk (95 :: 95 :: 109 :: 111 :: 100 :: 117 :: 108 :: 101 :: 95 :: 95 :: []))) 191) (Value.str (Str.mk (Array.mk (95 :: 102 :: 114 :: 111 :: 122 :: 101 :: 110 :: 95 :: 105 :: 109 :: 112 :: 111 :: 114 :: 116 :: 108 :: 105 :: 98 :: []))) 188), DictEntry.mk (PyData.keyHash P (Str.mk (Array.mk (95 :: 95 :: 102 :: 105 :: 114 :: 115 :: 116 :: 108 :: 105 :: 110 :: 101 :: 110 :: 111 :: 95 :: 95 :: [])))) (Value.str (Str.mk (Array.mk (95 :: 95 :: 102 :: 105 :: 114 :: 115 :: 116 :: 108 :: 105 :: 110 :: 101 :: 110 :: 111 :: 95 :: 95 :: []))) 192) (Value.int 971 189), DictEntry.mk (PyData.keyHash P (Str.ofString "__doc__")) (Value.str (Str.ofString "__doc__") 193) (Value.builtin "_frozen_importlib.BuiltinImporter.__doc__:str#\x6fpaque"), DictEntry.mk (PyData.keyHash P (Str.ofString "_ORIGIN")) (Value.str (Str.ofString "_ORIGIN") 194) (Value.str (Str.ofString "built-in") 190), DictEntry.mk (PyData.keyHash P (Str.mk (Array.mk (102 :: 105 :: 110 :: 100 :: 95 :: 115 :: 112 :: 101 :: 99 :: [])))) (Value.str (Str.mk (Array.mk (102 :: 105 :: 110 :: 100 :: 95 :: 115 :: 112 :: 101 :: 99 :: []))) 195) (Value.builtin "_frozen_importlib.BuiltinImporter.find_spec#\x6fpaque"), DictEntry.mk (PyData.keyHash P (Str.mk (Array.mk (99 :: 114 :: 101 :: 97 :: 116 :: 101 :: 95 :: 109 :: 111 :: 100 :: 117 :: 108 :: 101 :: [])))) (Value.str (Str.mk (Array.mk (99 :: 114 :: 101 :: 97 :: 116 :: 101 :: 95 :: 109 :: 111 :: 100 :: 117 :: 108 :: 101 :: []))) 196) (Value.builtin "_frozen_importlib.BuiltinImporter.create_module#\x6fpaque"), DictEntry.mk (PyData.keyHash P (Str.mk (Array.mk (101 :: 120 :: 101 :: 99 :: 95 :: 109 :: 111 :: 100 :: 117 :: 108 :: 101 :: [])))) (Value.str (Str.mk (Array.mk (101 :: 120 :: 101 :: 99 :: 95 :: 109 :: 111 :: 100 :: 117 :: 108 :: 101 :: []))) 197) (Value.builtin "_frozen_importlib.BuiltinImporter.exec_module#\x6fpaque"), DictEntry.mk (PyData.keyHash P (Str.ofString "get_code")) (Value.str (Str.ofString "get_code") 198) (Value.builtin "_frozen_importlib.BuiltinImporter.get_code#\x6fpaque"), DictEntry.mk (PyData.keyHash P (Str.mk (Array.mk (103 :: 101 :: 116 :: 95 :: 115 :: 111 :: 117 :: 114 :: 99 :: 101 :: [])))) (Value.str (Str.mk (Array.mk (103 :: 101 :: 116 :: 95 :: 115 :: 111 :: 117 :: 114 :: 99 :: 101 :: []))) 199) (Value.builtin "_frozen_importlib.BuiltinImporter.get_source#\x6fpaque"), DictEntry.mk (PyData.keyHash P (Str.mk (Array.mk (105 :: 115 :: 95 :: 112 :: 97 :: 99 :: 107 :: 97 :: 103 :: 101 :: [])))) (Value.str (Str.mk (Array.mk (105 :: 115 :: 95 :: 112 :: 97 :: 99 :: 107 :: 97 :: 103 :: 101 :: []))) 200) (Value.builtin "_frozen_importlib.BuiltinImporter.is_package#\x6fpaque"), DictEntry.mk (PyData.keyHash P (Str.mk (Array.mk (108 :: 111 :: 97 :: 100 :: 95 :: 109 :: 111 :: 100 :: 117 :: 108 :: 101 :: [])))) (Value.str (Str.mk (Array.mk (108 :: 111 :: 97 :: 100 :: 95 :: 109 :: 111 :: 100 :: 117 :: 108 :: 101 :: []))) 201) (Value.builtin "_frozen_importlib.BuiltinImporter.load_module#\x6fpaque"), DictEntry.mk (PyData.keyHash P (Str.mk (Array.mk (95 :: 95 :: 115 :: 116 :: 97 :: 116 :: 105 :: 99 :: 95 :: 97 :: 116 :: 116 :: 114 :: 105 :: 98 :: 117 :: 116 :: 101 :: 115 :: 95 :: 95 :: [])))) (Value.str (Str.mk (Array.mk (95 :: 95 :: 115 :: 116 :: 97 :: 116 :: 105 :: 99 :: 95 :: 97 :: 116 :: 116 :: 114 :: 105 :: 98 :: 117 :: 116 :: 101 :: 115 :: 95 :: 95 :: []))) 202) (Value.ref 16), DictEntry.mk (PyData.keyHash P (Str.ofString "__dict__")) (Value.str (Str.ofString "__dict__") 204) (Value.ref 17), DictEntry.mk (PyData.keyHash P (Str.mk (Array.mk (95 :: 95 :: 119 :: 101 :: 97 :: 107 :: 114 :: 101 :: 102 :: 95 :: 95 :: [])))) (Value.str (Str.mk (Array.mk (95 :: 95 :: 119 :: 101 :: 97 :: 107 :: 114 :: 101 :: 102 :: 95 :: 95 :: []))) 206) (Value.ref 18)] 14) #[]) (BT.node (Obj.mk (Value.type "dict") none (Data.dict #[DictEntry.mk (PyData.keyHash P (Str.mk (Array.mk (95 :: 95 :: 109 :: 111 :: 100 :: 117 :: 108 :: 101 :: 95 :: 95 :: [])))) (Value.str (Str.mk (Array.mk (95 :: 95 :: 109 :: 111 :: 100 :: 117 :: 108 :: 101 :: 95 :: 95 :: []))) 229) (Value.str (Str.mk (Array.mk (95 :: 102 :: 114 :: 111 :: 122 :: 101 :: 110 :: 95 :: 105 :: 109 :: 112 :: 111 :: 114 :: 116 :: 108 :: 105 :: 98 :: []))) 219), DictEntry.mk (PyData.keyHash P (Str.mk (Array.mk (95 :: 95 :: 102 :: 105 :: 114 :: 115 :: 116 :: 108 :: 105 :: 110 :: 101 :: 110 :: 111 :: 95 :: 95 :: [])))) (Value.str (Str.mk (Array.mk (95 :: 95 :: 102 :: 105 :: 114 :: 115 :: 116 :: 108 :: 105 :: 110 :: 101 :: 110 :: 111 :: 95 :: 95 :: []))) 230) (Value.int 562 220), DictEntry.mk (PyData.keyHash P (Str.ofString "__doc__")) (Value.str (Str.ofString "__doc__") 231) (Value.builtin "_frozen_importlib.ModuleSpec.__doc__:str#\x6fpaque"), DictEntry.mk (PyData.keyHash P (Str.ofString "__init__")) (Value.str (Str.ofString "__init__") 232) (Value.builtin "_frozen_importlib.ModuleSpec.__init__#\x6fpaque"), DictEntry.mk (PyData.keyHash P (Str.ofString "__repr__")) (Value.str (Str.ofString "__repr__") 233) (Value.builtin "_frozen_importlib.ModuleSpec.__repr__#\x6fpaque"), DictEntry.mk (PyData.keyHash P (Str.ofString "__eq__")) (Value.str (Str.ofString "__eq__") 234) (Value.builtin "_frozen_importlib.ModuleSpec.__eq__#\x6fpaque"), DictEntry.mk (PyData.keyHash P (Str.ofString "cached")) (Value.str (Str.ofString "cached") 235) (Value.builtin "_frozen_importlib.ModuleSpec.cached#\x6fpaque"), DictEntry.mk (PyData.keyHash P (Str.ofString "parent")) (Value.str (Str.ofString "parent") 236) (Value.builtin "_frozen_importlib.ModuleSpec.parent#\x6fpaque"), DictEntry.mk (PyData.keyHash P (Str.mk (Array.mk (104 :: 97 :: 115 :: 95 :: 108 :: 111 :: 99 :: 97 :: 116 :: 105 :: 111 :: 110 :: [])))) (Value.str (Str.mk (Array.mk (104 :: 97 :: 115 :: 95 :: 108 :: 111 :: 99 :: 97 :: 116 :: 105 :: 111 :: 110 :: []))) 237) (Value.builtin "_frozen_importlib.ModuleSpec.has_location#\x6fpaque"), DictEntry.mk (PyData.keyHash P (Str.mk (Array.mk (95 :: 95 :: 115 :: 116 :: 97 :: 116 :: 105 :: 99 :: 95 :: 97 :: 116 :: 116 :: 114 :: 105 :: 98 :: 117 :: 116 :: 101 :: 115 :: 95 :: 95 :: [])))) (Value.str (Str.mk (Array.mk (95 :: 95 :: 115 :: 116 :: 97 :: 116 :: 105 :: 99 :: 95 :: 97 :: 116 :: 116 :: 114 :: 105 :: 98 :: 117 :: 116 :: 101 :: 115 :: 95 :: 95 :: []))) 238) (Value.ref 24), DictEntry.mk (PyData.keyHash P (Str.ofString "__dict__")) (Value.str (Str.ofString "__dict__") 240) (Value.ref 25), DictEntry.mk (PyData.keyHash P (Str.mk (Array.mk (95 :: 95 :: 119 :: 101 :: 97 :: 107 :: 114 :: 101 :: 102 :: 95 :: 95 :: [])))) (Value.str (Str.mk (Array.mk (95 :: 95 :: 119 :: 101 :: 97 :: 107 :: 114 :: 101 :: 102 :: 95 :: 95 :: []))) 242) (Value.ref 26), DictEntry.mk (PyData.keyHash P (Str.ofString "__hash__")) (Value.str (Str.ofString "__hash__") 243) Value.none] 13) #[]) BT.nil BT.nil) BT.nil))))
noncomputable def hd.view_39 : Program := view pg0 [0, 1, 3, 5, 6, 7, 8, 9, 10, 11, 12, 14, 15, 16, 17, 18, 19, 21, 24, 25, 26, 27, 28, 29, 30, 31, 32]
noncomputable def loosL : List Str := [Str.ofString "UnsupportedOperation", Str.ofString "IOBase", Str.ofString "BufferedIOBase", Str.ofString "TextIOBase", Str.ofString "BytesIO", Str.ofString "StringIO", Str.ofString "shlex", Str.ofString "split"]
/-- the run of the top, by a step of one's own choice, over a tree of objects -/
noncomputable def runG (st : SharedT → Thread → Option (SharedT × Thread)) (ok : Thread → Bool) (n : Nat) : SharedT → Thread → Option SharedT :=
  Nat.rec (motive := fun _ => SharedT → Thread → Option SharedT) (fun _ _ => none)
    (fun _ ih s t => match through t with
      | true => some s
      | false => match ok t with
        | false => none
        | true => match st s t with
          | some (s', t') => ih s' t'
          | none => none) n
theorem runG_of {p : Program} {w : World} {n₀ : Nat} {ann : Option Value} : ∀ (n : Nat) (s : SharedT) (t : Thread) (s' : SharedT),
    runG (stepT (denote treeTable) p w) (stepOk n₀ ann) n s t = some s' → topRun treeTable p w n₀ ann n s.abs t = some s'.abs
  | 0, _, _, _, h => by cases h
  | n + 1, s, t, s', h => by
    have h' : (match through t with
      | true => some s
      | false => match stepOk n₀ ann t with
        | false => none
        | true => match stepT (denote treeTable) p w s t with
          | some (s', t') => runG (stepT (denote treeTable) p w) (stepOk n₀ ann) n s' t'
          | none => none) = some s' := h
    unfold topRun
    cases e1 : through t with
    | true => rw [e1] at h'; cases h'; rfl
    | false =>
      rw [e1] at h'
      cases e2 : stepOk n₀ ann t with
      | false => rw [e2] at h'; cases h'
      | true =>
        rw [e2] at h'
        cases e3 : stepT (denote treeTable) p w s t with
        | none => rw [e3] at h'; cases h'
        | some r =>
          obtain ⟨s2, t2⟩ := r
          rw [e3] at h'
          dsimp only
          rw [stepT_spec e3]
          exact runG_of n s2 t2 s' h'
/-- the opening, likewise -/
noncomputable def impG (st : SharedT → Thread → Option (SharedT × Thread)) (ex : Thread → Option (List Value)) (n : Nat) : SharedT → Thread → Option SharedT :=
  Nat.rec (motive := fun _ => SharedT → Thread → Option SharedT) (fun _ _ => none)
    (fun _ ih s t => match ex t with
      | some [] => some s
      | some (_ :: _) => none
      | none => match st s t with
        | some (s', t') => ih s' t'
        | none => none) n
theorem impG_of {p : Program} {w : World} : ∀ (n : Nat) (s : SharedT) (t : Thread) (s' : SharedT),
    impG (stepT (denote treeTable) p w) Thread.atExitBegin n s t = some s' → importEnds treeTable p w n s.abs t = some s'.abs
  | 0, _, _, _, h => by cases h
  | n + 1, s, t, s', h => by
    have h' : (match t.atExitBegin with
      | some [] => some s
      | some (_ :: _) => none
      | none => match stepT (denote treeTable) p w s t with
        | some (s', t') => impG (stepT (denote treeTable) p w) Thread.atExitBegin n s' t'
        | none => none) = some s' := h
    unfold importEnds
    cases e1 : t.atExitBegin with
    | some l =>
      rw [e1] at h'
      cases l with
      | nil => cases h'; rfl
      | cons _ _ => cases h'
    | none =>
      rw [e1] at h'
      cases e3 : stepT (denote treeTable) p w s t with
      | none => rw [e3] at h'; cases h'
      | some r =>
        obtain ⟨s2, t2⟩ := r
        rw [e3] at h'
        dsimp only
        rw [stepT_spec e3]
        exact impG_of n s2 t2 s' h'
def four (s : Shared) : Heap × Array GenState × Drawn × Nat := (s.heap, s.gens, s.drawn, s.toks)
noncomputable def heap0 (P : Params) : Heap := absHeap (tree0 P) 29 {}
/-- the opening's equation, by the functions given -/
def OpenEq (st : (Code → Sem Fin) → Program → World → SharedT → Thread → Option (SharedT × Thread)) (den : (String → Option Builtin) → Code → Sem Fin) (tb : String → Option Builtin)
    (ex : Thread → Option (List Value)) (sta : Program → Shared × Thread) (fen : Program → Shared → Option Shared) : Prop :=
  ∀ w : World, (fun os => (impG (st (den tb) (opening pg0) w) ex 1000 ⟨.nil, 0, {}, #[], {}, 1, os⟩ (sta (opening pg0)).2).bind fun s => (fen pg0 s.abs).map four) =
    fun os => some (heap0 w.params, #[], {}, 273)
theorem openQ : OpenEq PySem.W.Fast.tw10156331382660048174 PySem.W.Fast.tw11892475500146522536 PySem.W.Fast.tw14364793385576792824 PySem.W.Fast.tw3805553451399329143 PySem.W.Fast.tw1435165496053646825 PySem.W.Fast.tw14289696077712309145 := by
  intro w
  kernel_rfl
theorem openE : OpenEq @stepT denote treeTable Thread.atExitBegin start fenceModules? := by
  rw [PySem.W.Fast.te10156331382660048174, PySem.W.Fast.te11892475500146522536, PySem.W.Fast.te14364793385576792824, PySem.W.Fast.te3805553451399329143, PySem.W.Fast.te1435165496053646825, PySem.W.Fast.te14289696077712309145]
  exact openQ
/-- what is looked at behind the top -/
noncomputable def XtL (s : Shared) : Bool := xlAt hd.view_39 [] s && recOk (RowW.records PySem.Challenge.rw_nq0186_01.row.toRowW) s
noncomputable def lookG {β : Type} (sn : Shared → β) (mods : List Str) (h0 : Heap) (s : Shared) : Bool × β × List (Option Obj) :=
  (staticsOk mods h0 s.heap && namesBound pg0 s.heap && gensDone s && laidKept h0 s.heap, sn s, asL.map s.heap.get?)
noncomputable def valK (w : World) : List (Option Obj) := (hd.heap_39 w.params).map fun p => some p.2
def RunEq (st : (Code → Sem Fin) → Program → World → SharedT → Thread → Option (SharedT × Thread)) (den : (String → Option Builtin) → Code → Sem Fin) (tb : String → Option Builtin)
    (ok : Nat → Option Value → Thread → Bool) (im : List Stmt → List Str) (sn : type_of% @openSeen) : Prop :=
  ∀ w : World, (fun os => (runG (st (den tb) pg0 w) (ok 29 (some (.ref 6))) 5300 ⟨tree0 w.params, 29, {}, #[], {}, 273, os⟩ (topStub pg0)).map fun s =>
      lookG (sn hd.view_39 loosL (im pg0.main.body) XtL true) (im pg0.main.body) (heap0 w.params) s.abs) =
    fun os => some (true, openGood hd.view_39 loosL, valK w)
theorem runQ : RunEq PySem.W.Fast.tw10156331382660048174 PySem.W.Fast.tw11892475500146522536 PySem.W.Fast.tw14364793385576792824 PySem.W.Fast.tw6613529449190102663 PySem.W.Fast.tw5923862056798008813 PySem.W.Fast.tw4187177175401517315 := by
  intro w
  kernel_rfl
theorem runE : RunEq @stepT denote treeTable stepOk importedModules @openSeen := by
  rw [PySem.W.Fast.te10156331382660048174, PySem.W.Fast.te11892475500146522536, PySem.W.Fast.te14364793385576792824, PySem.W.Fast.te6613529449190102663, PySem.W.Fast.te5923862056798008813, PySem.W.Fast.te4187177175401517315]
  exact runQ

end Mine

/-! part Own2 -/
namespace Mine
def sizes (h : Heap) (gs : Array GenState) : Bool × Nat × Option Value := (h.isNs mainGlobals && gs.size == 0, h.objs.size, h.nsMap mainGlobals "__annotations__")
theorem sizeE (w : World) : sizes (heap0 w.params) #[] = (true, 29, some (.ref 6)) := by kernel_rfl
theorem startE : (start (opening pg0)).1 = SharedT.abs ⟨.nil, 0, {}, #[], {}, 1, (start (opening pg0)).1.os⟩ := by kernel_rfl
theorem asE (P : Params) : asL = (hd.heap_39 P).map (·.1) := by kernel_rfl
theorem fencedE (w : World) : (fencedOpening treeTable pg0 w 10162).map four = some (heap0 w.params, #[], {}, 273) := by
  have h := congrFun (openE w) (start (opening pg0)).1.os
  obtain ⟨s, h1, h2⟩ := Option.bind_eq_some_iff.mp h
  have h3 := impG_of 1000 _ _ _ h1
  rw [← startE] at h3
  have h4 := importEnds_mono 9162 _ _ _ _ h3
  unfold fencedOpening
  rw [show 1000 + 9162 = 10162 from rfl] at h4
  rw [h4]
  exact h2
theorem left_gen {p q : Program} {loose mods : List Str} {Xt : Shared → Bool} {α : Type} {Yf : Shared → α} {Ya : World → α} {N M : Nat} {g0 : Bool} {H : Params → Heap} {k₀ n₀ : Nat} {ann : Option Value} (hm : mods = importedModules p.main.body)
    (open_ : ∀ w : World, (fencedOpening treeTable p w N).map four = some (H w.params, #[], {}, k₀))
    (size : ∀ w : World, sizes (H w.params) #[] = (true, n₀, ann)) (le : M ≤ N)
    (run : ∀ (w : World) (os : OsState), ∃ s, topRun treeTable p w n₀ ann M ⟨H w.params, #[], {}, k₀, os⟩ (topStub p) = some s ∧
      (staticsOk mods (H w.params) s.heap && namesBound p s.heap && gensDone s && laidKept (H w.params) s.heap) = true ∧ openSeen q loose mods Xt g0 s = openGood q loose ∧ Yf s = Ya w) :
    LeftO p q loose Xt Yf Ya N g0 := fun w => by
  subst hm
  obtain ⟨⟨h, gs, d, k, os⟩, e, e'⟩ := Option.map_eq_some_iff.mp (open_ w)
  obtain ⟨rfl, rfl, rfl, rfl⟩ : h = H w.params ∧ gs = #[] ∧ d = {} ∧ k = k₀ := by simpa [four] using e'
  obtain ⟨s, r1, l1, l2, l3⟩ := run w os
  obtain ⟨z1, z2, z3⟩ : _ ∧ _ ∧ _ := by simpa only [sizes, Prod.mk.injEq] using size w
  have r := topRun_mono (N - M) _ _ _ _ r1
  rw [show M + (N - M) = N by omega] at r
  have t : topFrom treeTable p w N ⟨H w.params, #[], {}, k, os⟩ = some s := by
    unfold topFrom
    dsimp only
    rw [z1, z2, z3, r]
    show (match staticsOk (importedModules p.main.body) (H w.params) s.heap && namesBound p s.heap && gensDone s && laidKept (H w.params) s.heap with | true => some s | false => none) = _
    rw [l1]
  unfold openEnds
  rw [e]
  show (topFrom treeTable p w N _).map _ = _
  rw [t]
  exact congrArg some (Prod.ext l2 l3)
theorem look_parts {β : Type} {sn : Shared → β} {mods : List Str} {h0 : Heap} {s : Shared} {y : β} {z : List (Option Obj)} (e : lookG sn mods h0 s = (true, y, z)) :
    (staticsOk mods h0 s.heap && namesBound pg0 s.heap && gensDone s && laidKept h0 s.heap) = true ∧ sn s = y ∧ asL.map s.heap.get? = z :=
  ⟨congrArg Prod.fst e, congrArg (fun x => x.2.1) e, congrArg (fun x => x.2.2) e⟩
theorem leftT : LeftO pg0 hd.view_39 loosL XtL (fun s => asL.map s.heap.get?) valK 10162 :=
  left_gen (M := 5300) (H := heap0) (k₀ := 273) (n₀ := 29) (ann := some (.ref 6)) (mods := importedModules pg0.main.body) rfl fencedE sizeE (by decide) fun w os => by
    obtain ⟨sT, r1, r2⟩ := Option.map_eq_some_iff.mp (congrFun (runE w) os)
    exact ⟨sT.abs, runG_of 5300 _ _ _ r1, look_parts r2⟩
noncomputable def dd : DefRec × List (Str × PySem.Expr) := (defOf hd.view_39 (Str.ofString "law")).get (by kernel_rfl)
theorem ddE : defOf hd.view_39 PySem.Challenge.rw_nq0186_01.row.name = some (dd.1, dd.2) := by kernel_rfl
theorem ddN : dd.1.name = Str.ofString "law" := by kernel_rfl
def SaidEq (f : OpenLaw → Bool) : Prop := f PySem.Challenge.rw_nq0186_01 = true
theorem saidQ : SaidEq PySem.W.Fast.tw9446332074065402090 := by
  show PySem.W.Fast.tw9446332074065402090 PySem.Challenge.rw_nq0186_01 = true
  kernel_rfl
theorem saidT : PySem.Challenge.rw_nq0186_01.wellSaid = true := by
  show SaidEq OpenLaw.wellSaid
  rw [PySem.W.Fast.te9446332074065402090]
  exact saidQ
end Mine

/-! part Own3 -/
namespace Mine
theorem ddP : pg0.theDef PySem.Challenge.rw_nq0186_01.row.name = some (dd.1.params, dd.1.body, dd.1.scope) := by kernel_rfl
theorem ddK : kwWritten? dd.1.params.kwonlyargs dd.1.params.kw_defaults = some dd.2 := by kernel_rfl
theorem okE : (chainsOk hd.view_39 && opensWell pg0 && (frees PySem.Challenge.rw_nq0186_01.row.toRowW && PySem.Challenge.rw_nq0186_01.row.within.isEmpty)) = true := by kernel_rfl
theorem bareE : pg0.bare := ⟨rfl, rfl, rfl, rfl, rfl, by decide +kernel⟩
theorem promE : PySem.Challenge.rw_nq0186_01.row.toRowW.promised := by w_witness2
theorem hdT (hc : WalkO hd.view_39 loosL (XL hd.view_39 []) (kHook hd.heap_39 asL asE).says PySem.Challenge.rw_nq0186_01.row.toRowW dd.1 dd.2 (fun f vs => PySem.call f vs)) :
    PySem.Challenge.rw_nq0186_01.Holds :=
  holds_law saidT fun said => holds_open (r := PySem.Challenge.rw_nq0186_01.row) (q := hd.view_39) (loose := loosL) (Xt := XtL) (XP := XL hd.view_39 []) (Yf := (kHook hd.heap_39 asL asE).obs) (Ya := (kHook hd.heap_39 asL asE).val)
    (YP := (kHook hd.heap_39 asL asE).says) (N := 10162) leftT (Hook.of _) (Hook.keeps _) (fun s e => xl_of s (Bool.and_eq_true_iff.mp e).1) XL.keeps ddE ddP ddK
    (fun s e => recFacts_of (Bool.and_eq_true_iff.mp e).2) (by rfl) said okE bareE promE hc
end Mine

/-! part Base -/
namespace Mine
noncomputable abbrev pg : Program := PySem.Challenge.rw_nq0186_01.row.prog
noncomputable abbrev KK (w : World) : Frag := hd.heap_39 w.params
noncomputable abbrev vw : Program := hd.view_39
noncomputable abbrev loo : List Str := looseW hd.view_39
      [Str.ofString "UnsupportedOperation", Str.ofString "IOBase", Str.ofString "BufferedIOBase",
        Str.ofString "TextIOBase", Str.ofString "BytesIO", Str.ofString "StringIO", Str.ofString "shlex",
        Str.ofString "split"]
/-- the room of a call -/
abbrev Ar (hh : Option Value) (d : Nat) (outer : List Env) (gg : Option (List Code)) (u : Nat) : Around := ⟨hh, d, some outer, gg, u⟩

theorem enter0 {w : World} {hh : Option Value} {d u : Nat} {outer : List Env} {gg : Option (List Code)} {s : Shared} {K : Frag}
    {R : Result → Shared → Prop} {name qual : Str} {params : Arguments} {body : List Stmt} {scope : Scope} {dV kV doc pm cdv ct oc : Value} {an od : Option Addr} {osl : Array (Option Value)} {f : Addr} {args : Args} {binds : List (Str × Value)}
    (X : K.In s.heap) (hlim : s.heap.NoLimit)
    (ho : K.lookup f = some ⟨oc, od, .func (fnOf name qual params body scope dV kV doc pm an cdv ct), osl⟩) (hcd : codeIn K cdv qual = true) (hroom : d < recursionLimit)
    (hbind : BindsTo s (fnOf name qual params body scope dV kV doc pm an cdv ct) args binds) (hloc : ∀ y ∈ binds, scope.names.lookup y.1 = some .local)
    (h : ∀ h₁, Fr s.heap s.heap.objs.size h₁ (fun y => binds.reverse.lookup y) → News s.heap s.heap.objs.size h₁ [] →
      wpAny (model pg w) ((Ar hh d outer gg u).deeper (envOf qual scope s.heap.objs.size f cdv)) (execs body (envOf qual scope s.heap.objs.size f cdv))
        (fun fl s' => R (.ok (.ret (match fl with | .ret v => v | _ => .none))) s')
        (fun e s' => wpAny (model pg w) ((Ar hh d outer gg u).deeper (envOf qual scope s.heap.objs.size f cdv)) (leaving (envOf qual scope s.heap.objs.size f cdv) e) (fun _ s'' => R (.error e) s'') (fun e' s'' => R (.error e') s'') s')
        { s with heap := h₁, toks := s.toks + binds.length })
    (hco : scope.isCoroutine = false) (hgen : scope.isGenerator = false) (hk : scope.kind = .function)
    (hcell : ∀ x ∈ scope.names, x.2 ≠ .cell) : codeAny (model pg w) (Ar hh d outer gg u) (.call (.ref f) args) R s := by
  refine codeAny_call_def (fd := fnOf name qual params body scope dV kV doc pm an cdv ct) (body := body) (binds := binds) hroom (X _ _ ho) rfl hlim (codeRec_of X hcd) rfl hbind hcell hloc (fun h₁ hns hk₁ => ?_) hco hgen hk
  exact h h₁ ⟨hns, hk₁, Nat.le_refl _⟩ News.nil

section
variable {w : World} {d u : Nat} {outer : List Env} {gg : Option (List Code)} {s : Shared} {K : Frag}
    {R : Result → Shared → Prop} {name qual : Str} {body : List Stmt} {scope : Scope} {kV doc pm cdv ct oc : Value} {an od : Option Addr} {osl : Array (Option Value)} {f : Addr}
/-- a def of one parameter, called with one value: the caller's heap is the ground -/
theorem enter1 {x1 : Str} {a1 : Option Expr} {p1 : Pos} {v1 : Value}
    (X : K.In s.heap) (hlim : s.heap.NoLimit)
    (ho : K.lookup f = some ⟨oc, od, .func (fnOf name qual ⟨[], [⟨x1, a1, p1⟩], none, [], [], none, []⟩ body scope .none kV doc pm an cdv ct), osl⟩) (hcd : codeIn K cdv qual = true) (hroom : d < recursionLimit)
    (hbind : bindArgs (fnOf name qual ⟨[], [⟨x1, a1, p1⟩], none, [], [], none, []⟩ body scope .none kV doc pm an cdv ct) ⟨[v1], []⟩ = pure [(x1, v1)]) (hloc : scope.names.lookup x1 = some .local)
    (h : ∀ h₁, Fr s.heap s.heap.objs.size h₁ (fun y => [(x1, v1)].lookup y) → News s.heap s.heap.objs.size h₁ [] →
      wpAny (model pg w) ((Ar none d outer gg u).deeper (envOf qual scope s.heap.objs.size f cdv)) (execs body (envOf qual scope s.heap.objs.size f cdv))
        (fun fl s' => R (.ok (.ret (match fl with | .ret v => v | _ => .none))) s')
        (fun e s' => wpAny (model pg w) ((Ar none d outer gg u).deeper (envOf qual scope s.heap.objs.size f cdv)) (leaving (envOf qual scope s.heap.objs.size f cdv) e) (fun _ s'' => R (.error e) s'') (fun e' s'' => R (.error e') s'') s')
        ⟨h₁, s.gens, s.drawn, s.toks + 1, s.os⟩)
    (hco : scope.isCoroutine = false) (hgen : scope.isGenerator = false) (hk : scope.kind = .function)
    (hcell : ∀ x ∈ scope.names, x.2 ≠ .cell) : codeAny (model pg w) (Ar none d outer gg u) (.call (.ref f) ⟨[v1], []⟩) R s := by
  refine enter0 (binds := [(x1, v1)]) X hlim ho hcd hroom (BindsTo.of_eq hbind) (fun y hy => ?_) h hco hgen hk hcell
  rw [List.mem_singleton.mp hy]; exact hloc
theorem enter2 {x1 x2 : Str} {a1 a2 : Option Expr} {p1 p2 : Pos} {v1 v2 : Value}
    (X : K.In s.heap) (hlim : s.heap.NoLimit)
    (ho : K.lookup f = some ⟨oc, od, .func (fnOf name qual ⟨[], [⟨x1, a1, p1⟩, ⟨x2, a2, p2⟩], none, [], [], none, []⟩ body scope .none kV doc pm an cdv ct), osl⟩) (hcd : codeIn K cdv qual = true) (hroom : d < recursionLimit)
    (hbind : bindArgs (fnOf name qual ⟨[], [⟨x1, a1, p1⟩, ⟨x2, a2, p2⟩], none, [], [], none, []⟩ body scope .none kV doc pm an cdv ct) ⟨[v1, v2], []⟩ = pure [(x1, v1), (x2, v2)])
    (hloc : scope.names.lookup x1 = some .local) (hloc2 : scope.names.lookup x2 = some .local)
    (h : ∀ h₁, Fr s.heap s.heap.objs.size h₁ (fun y => [(x2, v2), (x1, v1)].lookup y) → News s.heap s.heap.objs.size h₁ [] →
      wpAny (model pg w) ((Ar none d outer gg u).deeper (envOf qual scope s.heap.objs.size f cdv)) (execs body (envOf qual scope s.heap.objs.size f cdv))
        (fun fl s' => R (.ok (.ret (match fl with | .ret v => v | _ => .none))) s')
        (fun e s' => wpAny (model pg w) ((Ar none d outer gg u).deeper (envOf qual scope s.heap.objs.size f cdv)) (leaving (envOf qual scope s.heap.objs.size f cdv) e) (fun _ s'' => R (.error e) s'') (fun e' s'' => R (.error e') s'') s')
        ⟨h₁, s.gens, s.drawn, s.toks + 2, s.os⟩)
    (hco : scope.isCoroutine = false) (hgen : scope.isGenerator = false) (hk : scope.kind = .function)
    (hcell : ∀ x ∈ scope.names, x.2 ≠ .cell) : codeAny (model pg w) (Ar none d outer gg u) (.call (.ref f) ⟨[v1, v2], []⟩) R s := by
  refine enter0 (binds := [(x1, v1), (x2, v2)]) X hlim ho hcd hroom (BindsTo.of_eq hbind) (fun y hy => ?_) h hco hgen hk hcell
  rcases List.mem_cons.mp hy with rfl | hy
  · exact hloc
  · rw [List.mem_singleton.mp hy]; exact hloc2
end

section
variable {prog : Program} {w : World} {A : Around} {E : Value → Shared → Prop} {s : Shared} {Q : Value → Shared → Prop}
theorem eq_nil {l b : Addr} {items items2 : Array Value} (hl : s.heap.IsList l items) (hb : s.heap.IsList b items2) (h2 : items2.size = 0) (hu : A.units < cLine) (h : Q (.bool (decide (items.size = 0))) s) :
    wpAny (model prog w) A (compareOp .Eq (.ref l) (.ref b)) Q E s := by
  by_cases hz : items.size = 0
  · refine SeqAt.eq_listAt (e := fun _ => true) hl hb (by rw [hz, h2]) hu (fun j h1 _ => ?_) ?_
    · omega
    · rw [hz]; rw [decide_eq_true hz] at h; exact h
  · rw [decide_eq_false hz] at h
    exact SeqAt.eq_list_lengthsAt hl hb (by simp [h2, hz]) hu h
theorem eq_nilT {l b : Addr} {items items2 : Array Value} (hl : s.heap.IsList l items) (hb : s.heap.IsList b items2) (h1 : items.size = 0) (h2 : items2.size = 0) (hu : A.units < cLine) (h : Q (.bool true) s) :
    wpAny (model prog w) A (compareOp .Eq (.ref l) (.ref b)) Q E s := eq_nil hl hb h2 hu (by rw [decide_eq_true h1]; exact h)
theorem eq_nilF {l b : Addr} {pre : List Value} {v : Value} {items2 : Array Value} (hl : s.heap.IsList l (pre ++ [v]).toArray) (hb : s.heap.IsList b items2) (h2 : items2.size = 0) (hu : A.units < cLine) (h : Q (.bool false) s) :
    wpAny (model prog w) A (compareOp .Eq (.ref l) (.ref b)) Q E s := eq_nil hl hb h2 hu (by rw [decide_eq_false (by simp)]; exact h)
end
end Mine

/-! part C1 -/
namespace Mine
theorem filled : hd.heap_39 = hd.heap_39 ∧ PySem.Challenge.rw_nq0186_01 = PySem.Challenge.rw_nq0186_01 := by
  k_fill
  exact ⟨rfl, rfl⟩
local macro_rules | `(tactic| walk_at "m enter") => `(tactic| first
  | (refine' enter1 (by assumption) (Top.nolimit (by assumption)) ?k6 ?k7 ?k8 ?k9 ?kB ?_ ?c2 ?c3 ?c4 ?c5; (case k6 => k_is); (case k7 => k_is); (case k8 => (simp only [recursionLimit]; omega)); (case k9 => exact rfl); (case c5 => decide); (case kB => exact rfl); (case c2 => exact rfl); (case c3 => exact rfl); (case c4 => exact rfl); (try dsimp only [f46, f60, f87, f364, f371, f378, f540, f653, f660, f690, f697, f719, f726, f741, f748, f753, f758, f765, f772, f779, f784, f789, f794]))
  | (refine' enter2 (by assumption) (Top.nolimit (by assumption)) ?k6 ?k7 ?k8 ?k9 ?kB ?kB2 ?_ ?c2 ?c3 ?c4 ?c5; (case k6 => k_is); (case k7 => k_is); (case k8 => (simp only [recursionLimit]; omega)); (case k9 => exact rfl); (case c5 => decide); (case kB => exact rfl); (case kB2 => exact rfl); (case c2 => exact rfl); (case c3 => exact rfl); (case c4 => exact rfl); (try dsimp only [f46, f60, f87, f364, f371, f378, f540, f653, f660, f690, f697, f719, f726, f741, f748, f753, f758, f765, f772, f779, f784, f789, f794])))

def stripQ (x : Str) : Str :=
  let y := if Txt.startswith x (Str.ofString "\"") = true then Txt.slice x (some 1) none else x
  if Txt.endswith y (Str.ofString "\"") = true then Txt.slice y none (some (-1)) else y

theorem strip_call {w : World} {mean : ExcName → Option Value} {mg mb : Str → Option Value} {d u : Nat} {outer : List Env} {gg : Option (List Code)} {s : Shared} {x : Str} {t : Tok} {R : Result → Shared → Prop}
   (X : (hd.heap_39 w.params).In s.heap) (T : Top vw loo mean mg mb s.heap) (hd' : d ≤ 500) (hu : u ≤ 500) (hx : x.length ≤ 100000)
   (hR : ∀ h' tk y t', y = stripQ x → s.heap.StaysIn h' → R (.ok (.ret (.str y t'))) ⟨h', s.gens, s.drawn, tk, s.os⟩) :
   codeAny (model pg w) (Ar none d outer gg u) (.call (.ref 46) ⟨[.str x t],[]⟩) R s := by
  w_on
  w_strict (
    walk_at "m enter"
    intro h' F N
    k_fold
    k_steps
    all_goals (refine hR _ _ _ _ ?_ (Fr.keep (by assumption)); simp_all [stripQ]))
def sidesQ (x : Str) : List Str :=
  [x, if Txt.slice x (some 1) (some 2) = Str.ofString "\"" then Txt.slice x (some 2) none else Txt.slice x (some 1) none,
   if Txt.slice x (some (-2)) (some (-1)) = Str.ofString "\"" then Txt.slice x none (some (-2)) else Txt.slice x none (some (-1))]
theorem strsAre3 {a b c x y z : Str} {t u v : Tok} : StrsAre [Value.str a t, Value.str b u, Value.str c v] [x, y, z] ↔ a = x ∧ b = y ∧ c = z := by
  constructor
  · intro h; cases h with | cons _ _ h => cases h with | cons _ _ h => cases h with | cons _ _ h => exact ⟨rfl, rfl, rfl⟩
  · rintro ⟨rfl, rfl, rfl⟩; exact .cons _ _ (.cons _ _ (.cons _ _ .nil))
theorem sides_call {w : World} {mean : ExcName → Option Value} {mg mb : Str → Option Value} {d u : Nat} {outer : List Env} {gg : Option (List Code)} {s : Shared} {x : Str} {t : Tok} {R : Result → Shared → Prop}
   (X : (hd.heap_39 w.params).In s.heap) (T : Top vw loo mean mg mb s.heap) (hd' : d ≤ 500) (hu : u ≤ 500) (hx : x.length ≤ 100000)
   (hR : ∀ h' tk a (ws : List Value), h'.get? a = some (W.listOf ws.toArray 0) → StrsAre ws (sidesQ x) → s.heap.get? a = none → s.heap.StaysIn h' → R (.ok (.ret (.ref a))) ⟨h', s.gens, s.drawn, tk, s.os⟩) :
   codeAny (model pg w) (Ar none d outer gg u) (.call (.ref 779) ⟨[.str x t],[]⟩) R s := by
  w_on
  w_strict (
    walk_at "m enter"
    intro h' F N
    k_fold
    k_steps
    all_goals (refine hR _ _ _ _ (News.get (by assumption) (by k_mem)) ?_ (News.fresh (by assumption) (by k_mem)) (Fr.keep (by assumption)); simp_all [sidesQ, strsAre3]))
local macro_rules | `(tactic| walk_at "compareOp Eq ref ref") => `(tactic| (k_here; refine eq_nil (News.isList (by assumption) (by k_mem)) (News.isList (by assumption) (by k_mem)) rfl (by units_room) ?_))
def occIn (y x : Str) : Bool := !(Builtin.Str.occurrences y x 0 y.length 1).isEmpty
def safeQ (x : Str) : Bool := (x != Str.ofString "") && decide (((signs x).filter (fun a => !(occIn (Str.ofString "aZ=/@") a))).length = 0)
theorem safe_call {w : World} {mean : ExcName → Option Value} {mg mb : Str → Option Value} {d u : Nat} {outer : List Env} {gg : Option (List Code)} {s : Shared} {x : Str} {t : Tok} {R : Result → Shared → Prop}
   (X : (hd.heap_39 w.params).In s.heap) (T : Top vw loo mean mg mb s.heap) (hd' : d ≤ 500) (hu : u ≤ 500) (hx : x.length ≤ 100000)
   (hR : ∀ h' tk b, b = safeQ x → s.heap.StaysIn h' → R (.ok (.ret (.bool b))) ⟨h', s.gens, s.drawn, tk, s.os⟩) :
   codeAny (model pg w) (Ar none d outer gg u) (.call (.ref 753) ⟨[.str x t],[]⟩) R s := by
  w_on
  w_strict (
    walk_at "m enter"
    intro h' F N
    k_fold
    k_steps
    · refine hR _ _ _ ?_ (Fr.keep (by assumption))
      have hl := CarriedAll.length_eq (by assumption)
      simp_all [safeQ, occIn]
    · refine hR _ _ _ ?_ (Fr.keep (by assumption))
      simp_all [safeQ])
end Mine

/-! part P1 -/
namespace Mine
/-- a text's signs as numbers -/
abbrev cs (x : Str) : List Nat := x.cps.toList
theorem cs_ext {x y : Str} (h : cs x = cs y) : x = y := by
  cases x; cases y; congr 1; exact Array.toList_inj.mp h
theorem cs_length (x : Str) : x.length = (cs x).length := by simp [Str.length]
theorem cs_append (x y : Str) : cs (x ++ y) = cs x ++ cs y := by show (x.cps ++ y.cps).toList = _; simp
theorem cs_mk (l : List Nat) : cs ⟨l.toArray⟩ = l := by simp
/-- each c becomes z -/
def subst (c : Nat) (z : List Nat) (l : List Nat) : List Nat := l.flatMap fun k => if k = c then z else [k]
theorem subst_free (c : Nat) (z : List Nat) : ∀ l : List Nat, c ∉ l → subst c z l = l
  | [], _ => rfl
  | k :: r, h => by
    have h1 : ¬ k = c := fun e => h (e ▸ List.mem_cons_self ..)
    have h2 : c ∉ r := fun m => h (List.mem_cons_of_mem _ m)
    have ih := subst_free c z r h2
    simp only [subst, List.flatMap_cons, if_neg h1] at *
    rw [ih]; rfl
theorem subst_append (c : Nat) (z a b : List Nat) : subst c z (a ++ b) = subst c z a ++ subst c z b := by simp [subst]
theorem subst_join (c : Nat) (z : Str) : ∀ parts : List Str, (∀ p ∈ parts, c ∉ cs p) → subst c (cs z) (cs (Str.join ⟨#[c]⟩ parts)) = cs (Str.join z parts)
  | [], _ => rfl
  | [p], h => subst_free c _ _ (h p (List.mem_singleton.mpr rfl))
  | p :: q :: r, h => by
    have ih := subst_join c z (q :: r) fun a ha => h a (List.mem_cons_of_mem _ ha)
    show subst c (cs z) (cs (p ++ ⟨#[c]⟩ ++ Str.join ⟨#[c]⟩ (q :: r))) = cs (p ++ z ++ Str.join z (q :: r))
    rw [cs_append, cs_append, cs_append, cs_append, subst_append, subst_append, ih, subst_free c _ _ (h p (List.mem_cons_self ..))]
    congr 2
    show subst c (cs z) [c] = _
    simp [subst]
theorem cs_replace (x z : Str) (c : Nat) : cs (Txt.replace x ⟨#[c]⟩ z) = subst c (cs z) (cs x) := by
  rw [StrLaws.replace_one, ← subst_join c z _ (StrLaws.split_free x c), StrLaws.join_split]
theorem subst_length (c : Nat) (z : List Nat) (n : Nat) (hz : z.length ≤ n) (hn : 1 ≤ n) : ∀ l : List Nat, (subst c z l).length ≤ n * l.length
  | [] => by simp [subst]
  | k :: r => by
    have ih := subst_length c z n hz hn r
    simp only [subst, List.flatMap_cons, List.length_append, List.length_cons] at *
    rw [Nat.mul_succ]
    split <;> simp_all <;> omega
theorem lit1 : Str.ofString "'" = ⟨#[39]⟩ := by decide +kernel
theorem lit2 : Str.ofString "'\"'\"'" = ⟨#[39, 34, 39, 34, 39]⟩ := by decide +kernel
theorem repl_len (x : Str) : (Txt.replace x (Str.ofString "'") (Str.ofString "'\"'\"'")).length ≤ 5 * x.length := by
  rw [lit1, lit2, cs_length, cs_length, cs_replace]
  exact subst_length 39 _ 5 (by simp) (by decide) _
theorem cs_join (z : Str) : ∀ xs : List Str, cs (Str.join z xs) = List.intercalate (cs z) (xs.map cs)
  | [] => rfl
  | [x] => by simp [Str.join, List.intercalate]
  | x :: y :: r => by
    have ih := cs_join z (y :: r)
    show cs (x ++ z ++ Str.join z (y :: r)) = _
    rw [cs_append, cs_append, ih]
    simp [List.intercalate, List.intersperse]
end Mine

/-! part PL -/
namespace Mine
/-- the lexer's states -/
inductive LS
  | non | sp | a | q (c : Nat)
def isWs (c : Nat) : Bool := c == 32 || c == 9 || c == 13 || c == 10
def isQ (c : Nat) : Bool := c == 39 || c == 34
/-- one token: the state, the token so far, what is left to read; none: no closing quotation -/
def rt : LS → List Nat → List Nat → Option (LS × List Nat × List Nat)
  | .non, _, r => some (.non, [], r)
  | .sp, k, [] => some (.non, k, [])
  | .a, k, [] => some (.non, k, [])
  | .q _, _, [] => none
  | .sp, k, c :: r => if isWs c then rt .sp k r else if isQ c then rt (.q c) [c] r else rt .a [c] r
  | .a, k, c :: r => if isWs c then some (.sp, k, r) else rt .a (k ++ [c]) r
  | .q d, k, c :: r => if c = d then some (.sp, k ++ [c], r) else rt (.q d) (k ++ [c]) r
/-- all tokens -/
def lx : LS → List Nat → List Nat → Option (List (List Nat))
  | .non, _, _ => some []
  | .sp, _, [] => some []
  | .a, k, [] => some [k]
  | .q _, _, [] => none
  | .sp, k, c :: r => if isWs c then lx .sp [] r else if isQ c then lx (.q c) [c] r else lx .a [c] r
  | .a, k, c :: r => if isWs c then (lx .sp [] r).map (k :: ·) else lx .a (k ++ [c]) r
  | .q d, k, c :: r => if c = d then (lx .sp [] r).map ((k ++ [c]) :: ·) else lx (.q d) (k ++ [c]) r
theorem lx_non (k r : List Nat) : lx .non k r = some [] := by cases r <;> rfl
theorem rt_non (k r : List Nat) : rt .non k r = some (.non, [], r) := by cases r <;> rfl
/-- what holds of a state and its token -/
def LsOk : LS → List Nat → List Nat → Prop
  | .non, _, r => r = []
  | .sp, k, _ => k = []
  | .a, k, _ => k ≠ []
  | .q _, k, _ => k ≠ []
theorem rt_lx : ∀ (r : List Nat) (st : LS) (k : List Nat), LsOk st k r → match rt st k r with
    | none => lx st k r = none
    | some (st', k', r') => (st' = .sp ∨ st' = .non ∧ r' = []) ∧ (if k' = [] then lx st k r = some [] else lx st k r = (lx st' [] r').map (k' :: ·)) ∧ (k' ≠ [] → st ≠ .non) ∧ (k' ≠ [] → st = .sp → r'.length < r.length) ∧ r'.length ≤ r.length
  | [], .non, k, h => by simp [rt, lx]
  | [], .sp, k, h => by cases h; simp [rt, lx]
  | [], .a, k, h => by
    have h' : k ≠ [] := h
    simp [rt, lx, h']
  | [], .q c, k, h => by simp [rt, lx]
  | c :: r, .non, k, h => by cases h
  | c :: r, .sp, k, h => by
    cases h
    have e1 : rt .sp [] (c :: r) = if isWs c then rt .sp [] r else if isQ c then rt (.q c) [c] r else rt .a [c] r := rfl
    have e2 : lx .sp [] (c :: r) = if isWs c then lx .sp [] r else if isQ c then lx (.q c) [c] r else lx .a [c] r := rfl
    rw [e1, e2]
    by_cases h1 : isWs c = true
    · have ih := rt_lx r .sp [] rfl
      rw [if_pos h1, if_pos h1]
      revert ih
      cases rt .sp [] r with
      | none => exact id
      | some p =>
        obtain ⟨st', k', r'⟩ := p
        rintro ⟨a, b, c', d, e⟩
        exact ⟨a, b, c', fun x y => by have := d x y; simp; omega, by simp; omega⟩
    · rw [if_neg h1, if_neg h1]
      by_cases h2 : isQ c = true
      · have ih := rt_lx r (.q c) [c] (by simp [LsOk])
        rw [if_pos h2, if_pos h2]
        revert ih
        cases rt (.q c) [c] r with
        | none => exact id
        | some p =>
          obtain ⟨st', k', r'⟩ := p
          rintro ⟨a, b, c', d, e⟩
          exact ⟨a, b, fun _ h => LS.noConfusion h, fun x y => by simp; omega, by simp; omega⟩
      · have ih := rt_lx r .a [c] (by simp [LsOk])
        rw [if_neg h2, if_neg h2]
        revert ih
        cases rt .a [c] r with
        | none => exact id
        | some p =>
          obtain ⟨st', k', r'⟩ := p
          rintro ⟨a, b, c', d, e⟩
          exact ⟨a, b, fun _ h => LS.noConfusion h, fun x y => by simp; omega, by simp; omega⟩
  | c :: r, .a, k, h => by
    have e1 : rt .a k (c :: r) = if isWs c then some (.sp, k, r) else rt .a (k ++ [c]) r := rfl
    have e2 : lx .a k (c :: r) = if isWs c then (lx .sp [] r).map (k :: ·) else lx .a (k ++ [c]) r := rfl
    have h' : k ≠ [] := h
    rw [e1, e2]
    by_cases h1 : isWs c = true
    · rw [if_pos h1, if_pos h1]
      simp [h']
    · have ih := rt_lx r .a (k ++ [c]) (by simp [LsOk])
      rw [if_neg h1, if_neg h1]
      revert ih
      cases rt .a (k ++ [c]) r with
      | none => exact id
      | some p =>
        obtain ⟨st', k', r'⟩ := p
        rintro ⟨a, b, c', d, e⟩
        exact ⟨a, b, fun _ h => LS.noConfusion h, fun x y => LS.noConfusion y, by simp; omega⟩
  | c :: r, .q d, k, h => by
    have e1 : rt (.q d) k (c :: r) = if c = d then some (.sp, k ++ [c], r) else rt (.q d) (k ++ [c]) r := rfl
    have e2 : lx (.q d) k (c :: r) = if c = d then (lx .sp [] r).map ((k ++ [c]) :: ·) else lx (.q d) (k ++ [c]) r := rfl
    rw [e1, e2]
    by_cases h1 : c = d
    · rw [if_pos h1, if_pos h1]
      simp
    · have ih := rt_lx r (.q d) (k ++ [c]) (by simp [LsOk])
      rw [if_neg h1, if_neg h1]
      revert ih
      cases rt (.q d) (k ++ [c]) r with
      | none => exact id
      | some p =>
        obtain ⟨st', k', r'⟩ := p
        rintro ⟨a, b, c', d, e⟩
        exact ⟨a, b, fun _ h => LS.noConfusion h, fun x y => LS.noConfusion y, by simp; omega⟩

def safeC (c : Nat) : Bool := c == 97 || c == 90 || c == 61 || c == 47 || c == 64
def safeL (w : List Nat) : Bool := !w.isEmpty && w.all safeC
def zz : List Nat := [39, 34, 39, 34, 39]
def encL (w : List Nat) : List Nat := if safeL w = true then w else 39 :: (subst 39 zz w ++ [39])
def strL : List Nat → List Nat → List (List Nat)
  | cur, [] => [cur ++ [39]]
  | cur, c :: r => if c = 39 then (cur ++ [39]) :: [39] :: strL [39] r else strL (cur ++ [c]) r
def rawL : List Nat → List Nat → List (List Nat)
  | cur, [] => [cur ++ [39]]
  | cur, c :: r => if c = 39 then (cur ++ [39]) :: [34, 39, 34] :: rawL [39] r else rawL (cur ++ [c]) r
def toldL (w : List Nat) : List (List Nat) := if safeL w = true then [w] else strL [39] w
def rawOf (w : List Nat) : List (List Nat) := if safeL w = true then [w] else rawL [39] w
def stripL (x : List Nat) : List Nat :=
  let y := if x.take 1 = [34] then x.drop 1 else x
  if y.drop (y.length - 1) = [34] then y.dropLast else y
def sidesL (t : List Nat) : List (List Nat) :=
  [t, if (t.drop 1).take 1 = [34] then t.drop 2 else t.drop 1, if t.dropLast.drop (t.length - 2) = [34] then t.dropLast.dropLast else t.dropLast]
def readL (t : List Nat) : List (List Nat) := [stripL t, stripL (t.drop 1), stripL t.dropLast]
theorem safeC_no {c : Nat} (h : safeC c = true) : isWs c = false ∧ isQ c = false ∧ c ≠ 34 ∧ c ≠ 39 := by
  simp only [safeC, Bool.or_eq_true, beq_iff_eq] at h
  rcases h with (((h | h) | h) | h) | h <;> subst h <;> decide
theorem lx_sp_ws {c : Nat} {r : List Nat} (h : isWs c = true) : lx .sp [] (c :: r) = lx .sp [] r := if_pos h
theorem lx_sp_q {c : Nat} {r : List Nat} (h : isWs c = false) (h2 : isQ c = true) : lx .sp [] (c :: r) = lx (.q c) [c] r := by
  show (if isWs c then _ else if isQ c then _ else _) = _
  rw [if_neg (by simp [h]), if_pos h2]
theorem lx_sp_a {c : Nat} {r : List Nat} (h : isWs c = false) (h2 : isQ c = false) : lx .sp [] (c :: r) = lx .a [c] r := by
  show (if isWs c then _ else if isQ c then _ else _) = _
  rw [if_neg (by simp [h]), if_neg (by simp [h2])]
theorem lx_q_end {d : Nat} {k r : List Nat} : lx (.q d) k (d :: r) = (lx .sp [] r).map ((k ++ [d]) :: ·) := if_pos rfl
theorem lx_q_on {c d : Nat} {k r : List Nat} (h : c ≠ d) : lx (.q d) k (c :: r) = lx (.q d) (k ++ [c]) r := if_neg h
theorem lx_a_on {c : Nat} {k r : List Nat} (h : isWs c = false) : lx .a k (c :: r) = lx .a (k ++ [c]) r := by
  show (if isWs c then _ else _) = _
  rw [if_neg (by simp [h])]
theorem lx_a_end {c : Nat} {k r : List Nat} (h : isWs c = true) : lx .a k (c :: r) = (lx .sp [] r).map (k :: ·) := if_pos h
theorem lx_raw (rest : List Nat) : ∀ (w cur : List Nat), lx (.q 39) cur (subst 39 zz w ++ 39 :: rest) = (lx .sp [] rest).map (rawL cur w ++ ·)
  | [], cur => by
    show lx (.q 39) cur (39 :: rest) = _
    rw [lx_q_end]; rfl
  | c :: w, cur => by
    have ih := lx_raw rest w
    by_cases h : c = 39
    · subst h
      have e : subst 39 zz (39 :: w) = 39 :: 34 :: 39 :: 34 :: 39 :: subst 39 zz w := by simp [subst, zz]
      have e2 : rawL cur (39 :: w) = (cur ++ [39]) :: [34, 39, 34] :: rawL [39] w := if_pos rfl
      rw [e, e2]
      simp only [List.cons_append]
      rw [lx_q_end, lx_sp_q (by decide) (by decide), lx_q_on (by decide), lx_q_end, lx_sp_q (by decide) (by decide), ih]
      cases lx .sp [] rest <;> rfl
    · have e : subst 39 zz (c :: w) = c :: subst 39 zz w := by simp [subst, h]
      have e2 : rawL cur (c :: w) = rawL (cur ++ [c]) w := if_neg h
      rw [e, e2, List.cons_append, lx_q_on h, ih]
theorem lx_cut : ∀ (w cur : List Nat), lx (.q 39) cur (subst 39 zz w) = none
  | [], cur => rfl
  | c :: w, cur => by
    have ih := lx_cut w
    by_cases h : c = 39
    · subst h
      have e : subst 39 zz (39 :: w) = 39 :: 34 :: 39 :: 34 :: 39 :: subst 39 zz w := by simp [subst, zz]
      rw [e, lx_q_end, lx_sp_q (by decide) (by decide), lx_q_on (by decide), lx_q_end, lx_sp_q (by decide) (by decide), ih]
      rfl
    · have e : subst 39 zz (c :: w) = c :: subst 39 zz w := by simp [subst, h]
      rw [e, lx_q_on h, ih]
theorem lx_word : ∀ (w k : List Nat), w.all safeC = true → lx .a k w = some [k ++ w]
  | [], k, _ => by simp [lx]
  | c :: w, k, h => by
    rw [List.all_cons, Bool.and_eq_true] at h
    rw [lx_a_on (safeC_no h.1).1, lx_word w _ h.2]; simp
theorem lx_word2 (rest : List Nat) : ∀ (w k : List Nat), w.all safeC = true → lx .a k (w ++ 32 :: rest) = (lx .sp [] rest).map ((k ++ w) :: ·)
  | [], k, _ => by simp [lx_a_end (c := 32) (by decide)]
  | c :: w, k, h => by
    rw [List.all_cons, Bool.and_eq_true] at h
    rw [List.cons_append, lx_a_on (safeC_no h.1).1, lx_word2 rest w _ h.2]; simp
theorem safe_cons {w : List Nat} (h : safeL w = true) : ∃ c r, w = c :: r ∧ safeC c = true ∧ r.all safeC = true := by
  cases w with
  | nil => simp [safeL] at h
  | cons c r =>
    simp only [safeL, List.all_cons, Bool.and_eq_true] at h
    exact ⟨c, r, rfl, h.2.1, h.2.2⟩
theorem lx_enc (w : List Nat) : lx .sp [] (encL w) = some (rawOf w) := by
  unfold encL rawOf
  by_cases h : safeL w = true
  · rw [if_pos h, if_pos h]
    obtain ⟨c, r, rfl, h1, h2⟩ := safe_cons h
    rw [lx_sp_a (safeC_no h1).1 (safeC_no h1).2.1, lx_word _ _ h2]; rfl
  · rw [if_neg h, if_neg h, lx_sp_q (by decide) (by decide), lx_raw [] w [39]]
    show some (_ ++ []) = _
    simp
theorem lx_enc2 (w rest : List Nat) : lx .sp [] (encL w ++ 32 :: rest) = (lx .sp [] rest).map (rawOf w ++ ·) := by
  unfold encL rawOf
  by_cases h : safeL w = true
  · rw [if_pos h, if_pos h]
    obtain ⟨c, r, rfl, h1, h2⟩ := safe_cons h
    rw [List.cons_append, lx_sp_a (safeC_no h1).1 (safeC_no h1).2.1, lx_word2 _ _ _ h2]; rfl
  · rw [if_neg h, if_neg h, List.cons_append, lx_sp_q (by decide) (by decide), List.append_assoc, List.singleton_append, lx_raw (32 :: rest) w [39], lx_sp_ws (by decide)]
theorem lx_line (x : List Nat) : ∀ ws : List (List Nat), lx .sp [] ((ws.flatMap fun w => encL w ++ [32]) ++ x) = (lx .sp [] x).map (ws.flatMap rawOf ++ ·)
  | [] => by
    show lx .sp [] x = _
    cases lx .sp [] x <;> rfl
  | w :: ws => by
    rw [List.flatMap_cons, List.append_assoc, List.append_assoc, List.singleton_append, lx_enc2, lx_line x ws, List.flatMap_cons]
    cases lx .sp [] x with
    | none => rfl
    | some l => simp
theorem line_eq : ∀ (ws : List (List Nat)) (l : List Nat), List.intercalate [32] ((ws ++ [l]).map encL) = (ws.flatMap fun w => encL w ++ [32]) ++ encL l
  | [], l => by simp [List.intercalate]
  | [w], l => by simp [List.intercalate]
  | w :: v :: r, l => by
    have ih := line_eq (v :: r) l
    simp only [List.cons_append, List.map_cons, List.flatMap_cons] at *
    rw [List.append_assoc, ← ih]
    simp [List.intercalate, List.intersperse]
/-- the line is told -/
theorem told_line (ws : List (List Nat)) (l : List Nat) : lx .sp [] (List.intercalate [32] ((ws ++ [l]).map encL)) = some ((ws ++ [l]).flatMap rawOf) := by
  rw [line_eq, lx_line, lx_enc]; simp
theorem encL_ne (l : List Nat) : encL l ≠ [] := by
  unfold encL
  split
  · rename_i h
    obtain ⟨c, r, rfl, _⟩ := safe_cons h
    simp
  · simp
theorem told_cut_bad (ws : List (List Nat)) (l : List Nat) (h : safeL l = false) : lx .sp [] (List.intercalate [32] ((ws ++ [l]).map encL)).dropLast = none := by
  rw [line_eq, List.dropLast_append_of_ne_nil (encL_ne l), lx_line]
  have e : (encL l).dropLast = 39 :: subst 39 zz l := by
    unfold encL
    rw [if_neg (by simp [h]), ← List.cons_append, List.dropLast_concat]
  rw [e, lx_sp_q (by decide) (by decide), lx_cut]; rfl
theorem told_cut_good (ws : List (List Nat)) (l : List Nat) (h : safeL l = true) : lx .sp [] (List.intercalate [32] ((ws ++ [l]).map encL)).dropLast = some (ws.flatMap rawOf ++ [l.dropLast].filter (fun p => p != [])) := by
  rw [line_eq, List.dropLast_append_of_ne_nil (encL_ne l), lx_line]
  have e : encL l = l := if_pos h
  rw [e]
  obtain ⟨c, r, rfl, h1, h2⟩ := safe_cons h
  rcases List.eq_nil_or_concat r with rfl | ⟨r', x, rfl⟩
  · simp [lx]
  · rw [List.concat_eq_append] at h2
    rw [List.all_append, Bool.and_eq_true] at h2
    rw [List.concat_eq_append, ← List.cons_append, List.dropLast_concat, lx_sp_a (safeC_no h1).1 (safeC_no h1).2.1, lx_word _ _ h2.1]
    simp
/-- a strand -/
def Strand (t : List Nat) : Prop := ∃ p, t = 39 :: (p ++ [39]) ∧ 39 ∉ p
theorem str_all : ∀ (w p : List Nat), 39 ∉ p → ∀ t ∈ strL (39 :: p) w, t = [39] ∨ Strand t
  | [], p, hp, t, ht => by
    rw [List.mem_singleton.mp ht]; exact .inr ⟨p, rfl, hp⟩
  | c :: w, p, hp, t, ht => by
    by_cases h : c = 39
    · subst h
      have e : strL (39 :: p) (39 :: w) = (39 :: p ++ [39]) :: [39] :: strL [39] w := if_pos rfl
      rw [e] at ht
      rcases List.mem_cons.mp ht with rfl | ht
      · exact .inr ⟨p, rfl, hp⟩
      · rcases List.mem_cons.mp ht with rfl | ht
        · exact .inl rfl
        · exact str_all w [] (by simp) t ht
    · have e : strL (39 :: p) (c :: w) = strL (39 :: (p ++ [c])) w := if_neg h
      rw [e] at ht
      exact str_all w (p ++ [c]) (by simp [hp]; exact fun e => h e.symm) t ht
theorem told_kinds (w t : List Nat) (ht : t ∈ toldL w) : (safeL t = true ∧ safeL w = true ∧ t = w) ∨ t = [39] ∨ Strand t := by
  unfold toldL at ht
  split at ht
  · rename_i h
    rw [List.mem_singleton.mp ht]; exact .inl ⟨h, h, rfl⟩
  · exact .inr (str_all w [] (by simp) t ht)
theorem strip_id {x : List Nat} (h1 : x.take 1 ≠ [34]) (h2 : x.drop (x.length - 1) ≠ [34]) : stripL x = x := by
  unfold stripL
  simp only [if_neg h1, if_neg h2]
theorem mem_of_take {x : List Nat} (h : x.take 1 = [34]) : 34 ∈ x := by
  have : 34 ∈ x.take 1 := by rw [h]; simp
  exact List.mem_of_mem_take this
theorem mem_of_drop {x : List Nat} {n : Nat} (h : x.drop n = [34]) : 34 ∈ x := by
  have : 34 ∈ x.drop n := by rw [h]; simp
  exact List.mem_of_mem_drop this
theorem strip_free {x : List Nat} (h : 34 ∉ x) : stripL x = x := strip_id (fun e => h (mem_of_take e)) (fun e => h (mem_of_drop e))
theorem read_free {t : List Nat} (h : 34 ∉ t) : readL t = sidesL t := by
  have h1 : 34 ∉ t.drop 1 := fun m => h (List.mem_of_mem_drop m)
  have h2 : 34 ∉ t.dropLast := fun m => h (List.dropLast_subset _ m)
  unfold readL sidesL
  rw [strip_free h, strip_free h1, strip_free h2, if_neg (fun e => h1 (mem_of_take e)), if_neg (fun e => h2 (mem_of_drop e))]
theorem safe_free {t : List Nat} (h : safeL t = true) : 34 ∉ t ∧ t ≠ [39] := by
  obtain ⟨c, r, rfl, h1, h2⟩ := safe_cons h
  refine ⟨fun m => ?_, fun e => ?_⟩
  · rcases List.mem_cons.mp m with rfl | m
    · exact absurd h1 (by decide)
    · exact absurd (List.all_eq_true.mp h2 _ m) (by decide)
  · cases e; exact absurd h1 (by decide)
theorem last_concat {p : List Nat} {x : Nat} : (p ++ [x]).drop ((p ++ [x]).length - 1) = [x] := by simp
theorem read_strand {t : List Nat} (h : Strand t) : readL t = sidesL t ∧ t ≠ [39] := by
  obtain ⟨p, rfl, hp⟩ := h
  refine ⟨?_, by simp⟩
  have a1 : stripL (39 :: (p ++ [39])) = 39 :: (p ++ [39]) := strip_id (by simp) (by rw [← List.cons_append, last_concat]; decide)
  have d1 : (39 :: (p ++ [39])).dropLast = 39 :: p := by rw [← List.cons_append, List.dropLast_concat]
  unfold readL sidesL
  rw [a1, d1]
  congr 1
  congr 1
  · show stripL (p ++ [39]) = if (p ++ [39]).take 1 = [34] then (p ++ [39]).drop 1 else p ++ [39]
    unfold stripL
    by_cases h : (p ++ [39]).take 1 = [34]
    · simp only [if_pos h]
      cases p with
      | nil => simp at h
      | cons c p =>
        show (if (p ++ [39]).drop ((p ++ [39]).length - 1) = [34] then _ else _) = p ++ [39]
        rw [last_concat, if_neg (by decide)]
        rfl
    · simp only [if_neg h]
      rw [last_concat, if_neg (by decide)]
  · congr 1
    have e : (39 :: (p ++ [39])).length - 2 = (39 :: p).length - 1 := by simp
    rw [e]
    unfold stripL
    have h1 : ¬ (39 :: p).take 1 = [34] := by simp
    simp only [if_neg h1]
theorem read_raw (f : List Nat → List (List Nat)) (h39 : f [39] = [[39], [39], [39]]) (hs : ∀ t, Strand t → f t = sidesL t) : ∀ (w p : List Nat), 39 ∉ p → (rawL (39 :: p) w).map readL = (strL (39 :: p) w).map f
  | [], p, hp => by
    have hS : Strand (39 :: (p ++ [39])) := ⟨p, rfl, hp⟩
    show [readL (39 :: (p ++ [39]))] = [f (39 :: (p ++ [39]))]
    rw [(read_strand hS).1, hs _ hS]
  | c :: w, p, hp => by
    by_cases h : c = 39
    · subst h
      have e : strL (39 :: p) (39 :: w) = (39 :: (p ++ [39])) :: [39] :: strL [39] w := if_pos rfl
      have e2 : rawL (39 :: p) (39 :: w) = (39 :: (p ++ [39])) :: [34, 39, 34] :: rawL [39] w := if_pos rfl
      have hS : Strand (39 :: (p ++ [39])) := ⟨p, rfl, hp⟩
      have ih := read_raw f h39 hs w [] (by simp)
      rw [e, e2, List.map_cons, List.map_cons, List.map_cons, List.map_cons, (read_strand hS).1, hs _ hS, ih, h39]
      rfl
    · have e : strL (39 :: p) (c :: w) = strL (39 :: (p ++ [c])) w := if_neg h
      have e2 : rawL (39 :: p) (c :: w) = rawL (39 :: (p ++ [c])) w := if_neg h
      rw [e, e2]
      exact read_raw f h39 hs w (p ++ [c]) (by simp [hp]; exact fun e => h e.symm)
def dueL (ms : List (List Nat)) (t : List Nat) : List (List Nat) := if ms.contains t = true then [t, t, t] else sidesL t
theorem due39 (w : List Nat) : (rawOf w).map readL = (toldL w).map (dueL [[39]]) := by
  unfold rawOf toldL
  by_cases h : safeL w = true
  · rw [if_pos h, if_pos h]
    have := safe_free h
    simp [dueL, this.2, read_free this.1]
  · rw [if_neg h, if_neg h]
    refine read_raw (dueL [[39]]) (by decide) (fun t ht => ?_) w [] (by simp)
    simp [dueL, (read_strand ht).2]
theorem due39s (ws : List (List Nat)) : (ws.flatMap rawOf).map readL = (ws.flatMap toldL).map (dueL [[39]]) := by
  rw [List.map_flatMap, List.map_flatMap]
  congr 1
  funext w
  exact due39 w
/-- the second line -/
def wrapL (t : List Nat) : List Nat := if t.contains 34 = true then t else 34 :: (t ++ [34])
theorem lx_quote (d : Nat) (rest : List Nat) : ∀ (p k : List Nat), d ∉ p → lx (.q d) k (p ++ d :: rest) = (lx .sp [] rest).map ((k ++ p ++ [d]) :: ·)
  | [], k, _ => by simp [lx_q_end]
  | c :: p, k, h => by
    have h1 : c ≠ d := fun e => h (by simp [e])
    have h2 : d ∉ p := fun m => h (by simp [m])
    rw [List.cons_append, lx_q_on h1, lx_quote d rest p _ h2]; simp
theorem lx_again : ∀ ts : List (List Nat), (∀ t ∈ ts, 34 ∈ t → Strand t) → lx .sp [] (ts.flatMap wrapL) = some (ts.map wrapL)
  | [], _ => rfl
  | t :: ts, h => by
    have ih := lx_again ts fun x hx => h x (.tail _ hx)
    rw [List.flatMap_cons, List.map_cons]
    by_cases h34 : 34 ∈ t
    · obtain ⟨p, rfl, hp⟩ := h t (.head _) h34
      have e : wrapL (39 :: (p ++ [39])) = 39 :: (p ++ [39]) := if_pos (by simpa using h34)
      rw [e, List.cons_append, lx_sp_q (by decide) (by decide), List.append_assoc, List.singleton_append, lx_quote 39 _ p _ hp, ih]; simp
    · have e : wrapL t = 34 :: (t ++ [34]) := if_neg (by simpa using h34)
      rw [e, List.cons_append, lx_sp_q (by decide) (by decide), List.append_assoc, List.singleton_append, lx_quote 34 _ t _ h34, ih]; simp
theorem strip_wrapped {t : List Nat} (h : 34 ∉ t) : stripL (34 :: (t ++ [34])) = t ∧ stripL (t ++ [34]) = t ∧ stripL (34 :: t) = t := by
  have k1 : ∀ x : List Nat, stripL (34 :: x) = if x.drop (x.length - 1) = [34] then x.dropLast else x := fun x => by
    unfold stripL
    have e : (34 :: x).take 1 = [34] := rfl
    simp only [if_pos e]; rfl
  refine ⟨?_, ?_, ?_⟩
  · rw [k1, last_concat, if_pos rfl, List.dropLast_concat]
  · cases t with
    | nil => decide
    | cons c r =>
      unfold stripL
      have hc : ¬ (c :: r ++ [34]).take 1 = [34] := fun e => h (by cases e; simp)
      simp only [if_neg hc]
      rw [last_concat, if_pos rfl, List.dropLast_concat]
  · rw [k1, if_neg (fun e => h (mem_of_drop e))]
theorem due_again {ts ms : List (List Nat)} (hk : ∀ t ∈ ts, 34 ∈ t → Strand t) (hm : ∀ t ∈ ts, ms.contains t = !(t.contains 34)) : (ts.map wrapL).map readL = ts.map (dueL ms) := by
  rw [List.map_map]
  refine List.map_congr_left fun t ht => ?_
  have h1 := hm t ht
  show readL (wrapL t) = dueL ms t
  unfold wrapL dueL
  by_cases h34 : 34 ∈ t
  · have e : t.contains 34 = true := by simpa using h34
    rw [if_pos e, h1, e, if_neg (by decide)]
    exact (read_strand (hk t ht h34)).1
  · have e : t.contains 34 = false := by simpa using h34
    rw [if_neg (by rw [e]; decide), h1, e, if_pos (by decide)]
    obtain ⟨a, b, c⟩ := strip_wrapped h34
    have d1 : (34 :: (t ++ [34])).dropLast = 34 :: t := by rw [← List.cons_append, List.dropLast_concat]
    unfold readL
    rw [a, d1, c]
    show [t, stripL (t ++ [34]), t] = _
    rw [b]
theorem told_strand (ws : List (List Nat)) : ∀ t ∈ ws.flatMap toldL, 34 ∈ t → Strand t := by
  intro t ht h34
  obtain ⟨w, _, h⟩ := List.mem_flatMap.mp ht
  rcases told_kinds w t h with h | rfl | h
  · exact absurd h34 (safe_free h.1).1
  · simp at h34
  · exact h
theorem again_line (ws ms : List (List Nat)) (hm : ∀ t ∈ ws.flatMap toldL, ms.contains t = !(t.contains 34)) :
    (lx .sp [] ((ws.flatMap toldL).flatMap wrapL)).map (·.map readL) = some ((ws.flatMap toldL).map (dueL ms)) := by
  rw [lx_again _ (told_strand ws)]
  show some (List.map readL _) = _
  rw [due_again (told_strand ws) hm]
end Mine

/-! part PT -/
namespace Mine
theorem lit3 : Str.ofString "\"" = ⟨#[34]⟩ := by decide +kernel
theorem slice_same {x : Str} {l u l' u' : Option Int} (h : Builtin.Str.strSliceIndices l u 1 x.length = Builtin.Str.strSliceIndices l' u' 1 x.length) : Txt.slice x l u = Txt.slice x l' u' := by
  unfold Txt.slice; rw [h]
theorem cs_sl (x : Str) (i j : Nat) (h1 : i ≤ j) (h2 : j ≤ (cs x).length) : cs (Txt.slice x (some (i : Int)) (some (j : Int))) = ((cs x).drop i).take (j - i) := by
  have h3 : (j : Int) ≤ (cs x).length := by omega
  rw [eq_of_beq (slice_closes (x := x) (i := i) (j := j) ⟨by omega, by omega, h3⟩), cs_mk]
  have : ((j : Int) - i).toNat = j - i := by omega
  rw [this]; rfl
theorem cs_from1 (x : Str) : cs (Txt.slice x (some 1) none) = (cs x).drop 1 := by
  have hl := cs_length x
  have e : Txt.slice x (some 1) none = Txt.slice x (some ((min 1 (cs x).length : Nat) : Int)) (some ((cs x).length : Int)) := slice_same (by
    rw [hl]; unfold Builtin.Str.strSliceIndices; dsimp only; generalize (cs x).length = n; congr 1 <;> (simp only [Int.max_def, Int.min_def, gt_iff_lt, Int.reduceLT, if_true, if_false]; repeat' split) <;> omega)
  rw [e, cs_sl x _ _ (by omega) (by omega)]
  rw [List.take_of_length_le (by rw [List.length_drop]; omega)]
  by_cases h : 1 ≤ (cs x).length
  · rw [Nat.min_eq_left h]
  · have : cs x = [] := by rw [← List.length_eq_zero_iff]; omega
    rw [this]; rfl
theorem cs_from2 (x : Str) : cs (Txt.slice x (some 2) none) = (cs x).drop 2 := by
  have hl := cs_length x
  have e : Txt.slice x (some 2) none = Txt.slice x (some ((min 2 (cs x).length : Nat) : Int)) (some ((cs x).length : Int)) := slice_same (by
    rw [hl]; unfold Builtin.Str.strSliceIndices; dsimp only; generalize (cs x).length = n; congr 1 <;> (simp only [Int.max_def, Int.min_def, gt_iff_lt, Int.reduceLT, if_true, if_false]; repeat' split) <;> omega)
  rw [e, cs_sl x _ _ (by omega) (by omega)]
  rw [List.take_of_length_le (by rw [List.length_drop]; omega)]
  by_cases h : 2 ≤ (cs x).length
  · rw [Nat.min_eq_left h]
  · rw [Nat.min_eq_right (by omega), List.drop_length, List.drop_eq_nil_of_le (by omega)]
theorem cs_to1 (x : Str) : cs (Txt.slice x none (some (-1))) = (cs x).dropLast := by
  have hl := cs_length x
  have e : Txt.slice x none (some (-1)) = Txt.slice x (some ((0 : Nat) : Int)) (some (((cs x).length - 1 : Nat) : Int)) := slice_same (by
    rw [hl]; unfold Builtin.Str.strSliceIndices; dsimp only; generalize (cs x).length = n; congr 1 <;> (simp only [Int.max_def, Int.min_def, gt_iff_lt, Int.reduceLT, if_true, if_false]; repeat' split) <;> omega)
  rw [e, cs_sl x _ _ (by omega) (by omega), List.dropLast_eq_take]; rfl
theorem cs_to2 (x : Str) : cs (Txt.slice x none (some (-2))) = (cs x).dropLast.dropLast := by
  have hl := cs_length x
  have e : Txt.slice x none (some (-2)) = Txt.slice x (some ((0 : Nat) : Int)) (some (((cs x).length - 2 : Nat) : Int)) := slice_same (by
    rw [hl]; unfold Builtin.Str.strSliceIndices; dsimp only; generalize (cs x).length = n; congr 1 <;> (simp only [Int.max_def, Int.min_def, gt_iff_lt, Int.reduceLT, if_true, if_false]; repeat' split) <;> omega)
  rw [e, cs_sl x _ _ (by omega) (by omega), List.dropLast_eq_take, List.dropLast_eq_take, List.take_take, List.length_take]
  show List.take _ (List.drop 0 _) = _
  rw [List.drop_zero]
  congr 1
  omega
theorem cs_12 (x : Str) : cs (Txt.slice x (some 1) (some 2)) = ((cs x).drop 1).take 1 := by
  have hl := cs_length x
  have e : Txt.slice x (some 1) (some 2) = Txt.slice x (some ((min 1 (cs x).length : Nat) : Int)) (some ((min 2 (cs x).length : Nat) : Int)) := slice_same (by
    rw [hl]; unfold Builtin.Str.strSliceIndices; dsimp only; generalize (cs x).length = n; congr 1 <;> (simp only [Int.max_def, Int.min_def, gt_iff_lt, Int.reduceLT, if_true, if_false]; repeat' split) <;> omega)
  rw [e, cs_sl x _ _ (by omega) (by omega)]
  by_cases h : 2 ≤ (cs x).length
  · rw [Nat.min_eq_left h, Nat.min_eq_left (by omega)]
  · by_cases h1 : 1 ≤ (cs x).length
    · rw [Nat.min_eq_left h1, List.drop_eq_nil_of_le (by omega)]; simp
    · have : cs x = [] := by rw [← List.length_eq_zero_iff]; omega
      rw [this]; rfl
theorem cs_21 (x : Str) : cs (Txt.slice x (some (-2)) (some (-1))) = (cs x).dropLast.drop ((cs x).length - 2) := by
  have hl := cs_length x
  have e : Txt.slice x (some (-2)) (some (-1)) = Txt.slice x (some (((cs x).length - 2 : Nat) : Int)) (some (((cs x).length - 1 : Nat) : Int)) := slice_same (by
    rw [hl]; unfold Builtin.Str.strSliceIndices; dsimp only; generalize (cs x).length = n; congr 1 <;> (simp only [Int.max_def, Int.min_def, gt_iff_lt, Int.reduceLT, if_true, if_false]; repeat' split) <;> omega)
  rw [e, cs_sl x _ _ (by omega) (by omega), List.dropLast_eq_take, List.drop_take]
theorem starts34 (x : Str) : Txt.startswith x ⟨#[34]⟩ = decide ((cs x).take 1 = [34]) := by
  have hl := cs_length x
  unfold Txt.startswith Builtin.Str.subAt
  rcases x with ⟨⟨l⟩⟩
  cases l with
  | nil => decide
  | cons c r =>
    simp [Str.length]
    show _ = decide ([c] = [34])
    by_cases h : c = 34 <;> simp [h]
theorem ends34 (x : Str) : Txt.endswith x ⟨#[34]⟩ = decide ((cs x).drop ((cs x).length - 1) = [34]) := by
  unfold Txt.endswith Builtin.Str.subAt
  rcases x with ⟨⟨l⟩⟩
  rcases List.eq_nil_or_concat l with rfl | ⟨r, c, rfl⟩
  · decide
  · rw [List.concat_eq_append]
    simp [Str.length]
    have e : List.drop r.length (cs { cps := { toList := r ++ [c] } }) = [c] := List.drop_left
    rw [e]
    by_cases h : c = 34 <;> simp [h]
theorem str_eq_iff {x y : Str} : x = y ↔ cs x = cs y := ⟨fun h => by rw [h], cs_ext⟩
end Mine

/-! part PX -/
namespace Mine
theorem lx_len : ∀ (r : List Nat) (st : LS) (k : List Nat) (ts : List (List Nat)), lx st k r = some ts → (∀ t ∈ ts, t.length ≤ k.length + r.length) ∧ ts.length ≤ r.length + 1
  | [], .non, k, ts, h => by cases h; simp
  | [], .sp, k, ts, h => by cases h; simp
  | [], .a, k, ts, h => by cases h; simp
  | [], .q _, k, ts, h => by cases h
  | c :: r, .non, k, ts, h => by cases h; simp
  | c :: r, .sp, k, ts, h => by
    have e : lx .sp k (c :: r) = if isWs c then lx .sp [] r else if isQ c then lx (.q c) [c] r else lx .a [c] r := rfl
    rw [e] at h
    have key : ∀ st' k', k'.length ≤ 1 → lx st' k' r = some ts → (∀ t ∈ ts, t.length ≤ k.length + (c :: r).length) ∧ ts.length ≤ (c :: r).length + 1 := fun st' k' hk h => by
      have := lx_len r st' k' ts h
      refine ⟨fun t ht => ?_, ?_⟩
      · have := this.1 t ht
        simp only [List.length_cons]; omega
      · simp only [List.length_cons]; omega
    split at h
    · exact key _ _ (by simp) h
    · split at h
      · exact key _ _ (by simp) h
      · exact key _ _ (by simp) h
  | c :: r, .a, k, ts, h => by
    have e : lx .a k (c :: r) = if isWs c then (lx .sp [] r).map (k :: ·) else lx .a (k ++ [c]) r := rfl
    rw [e] at h
    split at h
    · cases q : lx .sp [] r with
      | none => rw [q] at h; cases h
      | some l =>
        rw [q] at h
        cases h
        have := lx_len r .sp [] l q
        refine ⟨fun t ht => ?_, ?_⟩
        · rcases List.mem_cons.mp ht with rfl | ht
          · omega
          · have := this.1 t ht
            simp only [List.length_cons, List.length_nil] at *; omega
        · simp only [List.length_cons]; omega
    · have := lx_len r .a (k ++ [c]) ts h
      refine ⟨fun t ht => ?_, ?_⟩
      · have := this.1 t ht
        simp only [List.length_append, List.length_cons, List.length_nil] at *; omega
      · simp only [List.length_cons]; omega
  | c :: r, .q d, k, ts, h => by
    have e : lx (.q d) k (c :: r) = if c = d then (lx .sp [] r).map ((k ++ [c]) :: ·) else lx (.q d) (k ++ [c]) r := rfl
    rw [e] at h
    split at h
    · cases q : lx .sp [] r with
      | none => rw [q] at h; cases h
      | some l =>
        rw [q] at h
        cases h
        have := lx_len r .sp [] l q
        refine ⟨fun t ht => ?_, ?_⟩
        · rcases List.mem_cons.mp ht with rfl | ht
          · simp only [List.length_append, List.length_cons, List.length_nil]; omega
          · have := this.1 t ht
            simp only [List.length_cons, List.length_nil] at *; omega
        · simp only [List.length_cons]; omega
    · have := lx_len r (.q d) (k ++ [c]) ts h
      refine ⟨fun t ht => ?_, ?_⟩
      · have := this.1 t ht
        simp only [List.length_append, List.length_cons, List.length_nil] at *; omega
      · simp only [List.length_cons]; omega
theorem lex_lens {x : Str} {ys : List Str} (h : lx .sp [] (cs x) = some (ys.map cs)) (hx : x.length ≤ 100000) : (∀ b ∈ ys, b.length ≤ 100000) ∧ ys.length ≤ 100001 := by
  have := lx_len (cs x) .sp [] _ h
  rw [cs_length] at hx
  refine ⟨fun b hb => ?_, ?_⟩
  · have := this.1 (cs b) (List.mem_map_of_mem hb)
    rw [cs_length]
    simp only [List.length_nil] at this; omega
  · have := this.2
    rw [List.length_map] at this; omega
end Mine

/-! part B2 -/
namespace Mine
theorem Fr.on {h₀ h h' : Heap} {L : Addr} {m : Str → Option Value} (F : Fr h₀ L h m) (k : h.StaysIn h') : Fr h₀ L h' m := F.keeps k
theorem News.on {h₀ h h' : Heap} {L : Addr} {news : List (Addr × Obj)} (N : News h₀ L h news) (k : h.StaysIn h') : News h₀ L h' news := fun p hp => ⟨k _ _ (N p hp).1, (N p hp).2⟩
theorem nsOn {h h' : Heap} {a : Addr} {m : Str → Option Value} (n : h.Ns a m) (k : h.StaysIn h') : h'.Ns a m := n.keeps k
theorem StaysIn.tr {a b c : Heap} (x : a.StaysIn b) (y : b.StaysIn c) : a.StaysIn c := fun p o e => y p o (x p o e)
theorem StaysIn.rfl' {a : Heap} : a.StaysIn a := fun _ _ e => e
def TxtOut (g : Str) (s₂ : Shared) (y : Value) (s₃ : Shared) : Prop := (∃ t', y = .str g t') ∧ Keeps s₂ s₃
theorem TxtOut.mk' {g y : Str} {t : Tok} {s₂ : Shared} {h' : Heap} {tk : Nat} (e : y = g) (k : s₂.heap.StaysIn h') : TxtOut g s₂ (.str y t) ⟨h', s₂.gens, s₂.drawn, tk, s₂.os⟩ := ⟨⟨t, by rw [e]⟩, h', tk, rfl, k⟩
def TestOut (b : Bool) (s₂ : Shared) (y : Bool) (s₃ : Shared) : Prop := y = b ∧ Keeps s₂ s₃
theorem TestOut.mk' {b y : Bool} {s₂ : Shared} {h' : Heap} {tk : Nat} (e : y = b) (k : s₂.heap.StaysIn h') : TestOut b s₂ y ⟨h', s₂.gens, s₂.drawn, tk, s₂.os⟩ := ⟨e, h', tk, rfl, k⟩
theorem TestOut.self {b y : Bool} {s₂ : Shared} (e : y = b) : TestOut b s₂ y s₂ := ⟨e, s₂.heap, s₂.toks, rfl, fun _ _ e => e⟩
section
variable {prog : Program} {w : World} {A : Around} {E : Value → Shared → Prop} {s : Shared} {h₀ : Heap} {L : Addr} {m : Str → Option Value} {news : List (Addr × Obj)} {name : Str} {scope : Scope} {a : Addr} {cd : Value}
/-- a comprehension without a test over a local that holds a list of texts; its elements are texts -/
theorem comp_txt {elt : Expr} {x y : Str} {px py : Pos} {cs : Scope} {pos : Pos} {Q : Value → Shared → Prop} {ax : Addr} {vs : List Value} {xs : List Str} (g : Str → Str) (p : Str → Bool) (B : Nat) {ifs : List Expr}
    (F : Fr h₀ L s.heap m) (N : News h₀ L s.heap news) (hh : A.handled = none) (hv : m y = some (.ref ax)) (hl : s.heap.IsList ax vs.toArray) (hS : StrsAre vs xs) (hB : ∀ b ∈ xs, b.length ≤ B) (hsz : xs.length ≤ sizeLine)
    (hclos : closureFor cs (envOf name scope L a cd) = pure []) (hcell : ∀ y ∈ cs.names, y.2 ≠ .cell) (hkind : cs.kind = .function)
    (hnames : ∀ y ∈ cs.names, y.2 = .local → cs.names.lookup y.1 = some .local) (hx : cs.names.lookup x = some .local)
    (hk : scope.kind = .function) (hy : (envOf name scope L a cd).kindOf y = some .local) (hd : (y == ("__debug__" : Str)) = false)
    (htest : ∀ C b t s₂ m₂ E', b.length ≤ B → s₂.heap.Ns (compEnvC cs [] C (envOf name scope L a cd)).locals m₂ → m₂ x = some (.str b t) → s.heap.StaysIn s₂.heap → Fr h₀ L s₂.heap m → News h₀ L s₂.heap news →
      wpAny (model prog w) A (forIn ifs true fun c r => if r = true then do let ok ← isTrue c (compEnvC cs [] C (envOf name scope L a cd)) (eval c (compEnvC cs [] C (envOf name scope L a cd))); pure (ForInStep.yield ok) else pure (ForInStep.yield r)) (TestOut (p b) s₂) E' s₂)
    (helt : ∀ C b t s₂ m₂ E', b.length ≤ B → p b = true → s₂.heap.Ns (compEnvC cs [] C (envOf name scope L a cd)).locals m₂ → m₂ x = some (.str b t) → s.heap.StaysIn s₂.heap → Fr h₀ L s₂.heap m → News h₀ L s₂.heap news →
      wpAny (model prog w) A (eval elt (compEnvC cs [] C (envOf name scope L a cd))) (TxtOut (g b) s₂) E' s₂)
    (hQ : ∀ D (ys : List Value) n h' tk, Fr h₀ L h' m → News h₀ L h' ((D, W.listOf ys.toArray n) :: news) → (∀ q ∈ news, q.1 ≠ D) → s.heap.StaysIn h' → StrsAre ys ((xs.filter p).map g) → Q (.ref D) { s with heap := h', toks := tk })
    (hs : ∀ x, foldedSetIterable (.Name y py) (envOf name scope L a cd) x = pure x := by intro _; rfl) :
    wpAny (model prog w) A (eval (.ListComp elt [⟨.Name x px, .Name y py, ifs, 0⟩] cs pos) (envOf name scope L a cd)) Q E s := by
  refine wpAny_ListComp_free (cl := []) (fun v => match v with | .str b _ => p b | _ => false) (fun v z => ∃ b t t', v = .str b t ∧ z = .str (g b) t') hclos hcell hkind hnames hx ?_ hs
  refine ld F hv ?_ hk hy hd
  have hlt : ax < s.heap.objs.size := by obtain ⟨_, e, _⟩ := hl; exact Heap.lt_size e
  refine wpAny_pyIter_list hl ?_
  have hlen := hS.length
  refine ⟨s.heap.objs.size, [s.heap.objs.size, ax], [s.heap.objs.size], vs.toArray.size, _, _, rfl, Walks.list hh _ _ (Nat.ne_of_lt hlt) vs.toArray, (by rw [List.size_toArray, hlen]; exact hsz), ⟨⟨_, Heap.get?_push_size _ rfl, rfl, rfl⟩, hl.push _⟩, ?_, ⟨?_, ?_⟩, ?_⟩
  · intro b hb
    show b < (s.heap.push _).objs.size
    rw [Heap.size_push]
    rcases List.mem_cons.mp hb with rfl | hb
    · exact Nat.lt_succ_self _
    · rw [List.mem_singleton.mp hb]; exact Nat.lt_succ_of_lt hlt
  · intro C i v s₃ m₃ E' _ hP hn hm hk' _
    obtain ⟨b, t, rfl, hb⟩ := hS.item i v (by simpa using hP)
    have st : s.heap.StaysIn s₃.heap := fun q o e => hk' q o (fun hm => by rw [List.mem_singleton.mp hm] at e; exact Nat.lt_irrefl _ (Heap.lt_size e)) (Heap.get?_push_of_some _ e)
    exact htest C b t s₃ m₃ E' (hB _ (List.mem_of_getElem? hb)) hn hm st (Fr.on F st) (News.on N st)
  · intro C i v s₃ m₃ E' _ hP hp hn hm hk' _
    obtain ⟨b, t, rfl, hb⟩ := hS.item i v (by simpa using hP)
    have st : s.heap.StaysIn s₃.heap := fun q o e => hk' q o (fun hm => by rw [List.mem_singleton.mp hm] at e; exact Nat.lt_irrefl _ (Heap.lt_size e)) (Heap.get?_push_of_some _ e)
    refine wpAny_mono (helt C b t s₃ m₃ E' (hB _ (List.mem_of_getElem? hb)) hp hn hm st (Fr.on F st) (News.on N st)) (fun z s₄ hz => ?_) fun _ _ e => e
    obtain ⟨⟨t', rfl⟩, hK⟩ := hz
    exact ⟨⟨b, t, t', rfl, rfl⟩, hK⟩
  · intro D h' tk ys vs' hnew hlD hplD hlen' hP hF hk'
    have e : vs' = vs := by simpa using list_of_places hlen' hP
    subst e
    have up : s.heap.StaysIn h' := fun q o e => hk' q o (fun hm => by rw [List.mem_singleton.mp hm] at e; exact Nat.lt_irrefl _ (Heap.lt_size e)) (Heap.get?_push_of_some _ e)
    obtain ⟨n, hpl⟩ := hplD
    have hD : s.heap.get? D = none := by
      cases q : s.heap.get? D with
      | none => rfl
      | some o => rw [Heap.get?_push_of_some _ q] at hnew; cases hnew
    have hDL : D ≠ L := by
      rintro rfl
      obtain ⟨o, _, _, ho, _⟩ := F.ns
      rw [hD] at ho; cases ho
    have hStr : StrsAre ys.toList ((xs.filter p).map g) := by
      clear hQ hlD hpl hnew hk' hlen' hP hl helt htest hlen hv hsz hB
      generalize ys.toList = zs at hF
      induction hS generalizing zs with
      | nil => cases hF; exact .nil
      | cons b t hS' ih =>
        by_cases hb : p b = true
        · rw [List.filter_cons_of_pos (by simpa using hb)] at hF
          rw [List.filter_cons_of_pos (by simpa using hb)]
          cases hF with
          | cons hz hF =>
            obtain ⟨b', t₁, t', e1, rfl⟩ := hz
            cases e1
            exact .cons _ _ (ih _ hF)
        · rw [List.filter_cons_of_neg (by simpa using hb)] at hF
          rw [List.filter_cons_of_neg (by simpa using hb)]
          exact ih _ hF
    refine hQ D ys.toList n h' tk (F.keeps up) (fun q hq => ?_) (fun q hq e => ?_) up hStr
    · rcases List.mem_cons.mp hq with rfl | hq
      · refine ⟨by rw [Array.toArray_toList]; exact hpl, hDL, ?_⟩
        cases q : h₀.get? D with
        | none => rfl
        | some o => rw [F.keep _ _ q] at hD; cases hD
      · exact ⟨up _ _ (N q hq).1, (N q hq).2⟩
    · have := (N q hq).1; rw [e, hD] at this; cases this
end
end Mine

/-! part C2 -/
namespace Mine
local macro_rules | `(tactic| walk_at "zz0") => `(tactic| fail "zz")

def encQ (x : Str) : Str := if safeQ x = true then x else Str.ofString "'" ++ Txt.replace x (Str.ofString "'") (Str.ofString "'\"'\"'") ++ Str.ofString "'"
def lineQ (xs : List Str) : Str := Txt.join (Str.ofString " ") (xs.map encQ)
local macro_rules | `(tactic| walk_at "eval ListComp") => `(tactic| (k_here; k_dflt (refine' comp_txt encQ (fun _ => true) 100 (by assumption) (by assumption) ?c1 ?c2 ?c3 ?c4 ?cB ?c5 ?c6 ?c7 ?c8 ?c9 ?c10 ?c11 ?c12 ?c13 ?test ?elt ?done; (case c1 => exact rfl); (case c2 => exact rfl); (case c3 => exact Fr.lst (by assumption) (by assumption)); (case c4 => assumption); (case cB => assumption); (case c5 => (simp only [sizeLine]; omega)); (case c6 => with_unfolding_all rfl); (case c7 => decide); (case c8 => exact rfl); (case c9 => decide); (case c10 => exact rfl); (case c11 => exact rfl); (case c12 => exact rfl); (case c13 => decide))))
local macro_rules | `(tactic| walk_at "call ref") => `(tactic| (k_here; (with_reducible show wpAny _ _ (call (Value.ref 753) [Value.str _ _]) _ _ _); k_dflt (refine wpAny_call (safe_call (by k_in) (Top.keeps (by assumption) (Fr.keep (by assumption))) (by dsimp only; omega) (by dsimp only; omega) (by omega) ?_); intro h'' tk'' b'' hb'' st''; subst hb''; (have FF := Fr.on (by assumption) st''); (have NN := News.on (by assumption) st''); (try (have ZZ := nsOn (by assumption) st'')); (try dsimp only))))
theorem filter_yes {α : Type} (xs : List α) : xs.filter (fun _ => true) = xs := by simp
theorem enc_len (x : Str) (h : x.length ≤ 100) : (encQ x).length ≤ 502 := by
  have := repl_len x
  unfold encQ
  split
  · omega
  · rw [Str.length_append, Str.length_append]
    have e : (Str.ofString "'").length = 1 := by decide +kernel
    omega
theorem enc_sum : ∀ xs : List Str, (∀ x ∈ xs, x.length ≤ 100) → ((xs.map encQ).map (·.length)).sum ≤ 502 * xs.length
  | [], _ => by simp
  | x :: r, h => by
    have h1 := enc_len x (h x (List.mem_cons_self ..))
    have h2 := enc_sum r fun y hy => h y (List.mem_cons_of_mem _ hy)
    simp only [List.map_cons, List.sum_cons, List.length_cons] at *
    omega
theorem line_call {w : World} {mean : ExcName → Option Value} {mg mb : Str → Option Value} {d u : Nat} {outer : List Env} {gg : Option (List Code)} {s : Shared} {R : Result → Shared → Prop} {a : Addr} {vs : List Value} {xs : List Str}
   (X : (hd.heap_39 w.params).In s.heap) (T : Top vw loo mean mg mb s.heap) (hd' : d ≤ 490) (hu : u ≤ 400)
   (hl : s.heap.IsList a vs.toArray) (hS : StrsAre vs xs) (hn : xs.length ≤ 100) (hx : ∀ x ∈ xs, x.length ≤ 100)
   (hR : ∀ h' tk y t', y = lineQ xs → s.heap.StaysIn h' → R (.ok (.ret (.str y t'))) ⟨h', s.gens, s.drawn, tk, s.os⟩) :
   codeAny (model pg w) (Ar none d outer gg u) (.call (.ref 758) ⟨[.ref a],[]⟩) R s := by
  w_on
  w_strict (
    (refine' enter1 (by assumption) (Top.nolimit (by assumption)) ?k6 ?k7 ?k8 ?k9 ?kB ?_ ?c2 ?c3 ?c4 ?c5; (case k6 => k_is); (case k7 => k_is); (case k8 => (simp only [recursionLimit]; omega)); (case k9 => exact rfl); (case c5 => decide); (case kB => exact rfl); (case c2 => exact rfl); (case c3 => exact rfl); (case c4 => exact rfl); (try dsimp only [f46, f60, f87, f364, f371, f378, f540, f653, f660, f690, f697, f719, f726, f741, f748, f753, f758, f765, f772, f779, f784, f789, f794]))
    intro h' F N
    k_fold
    k_steps
    all_goals try exact TestOut.self rfl
    · exact TxtOut.mk' (by simp_all [encQ]) (by assumption)
    · have hq := repl_len ‹Str›
      k_steps
      exact TxtOut.mk' (by simp_all [encQ]) (by assumption)
    · rename_i hys
      rw [filter_yes] at hys
      refine join_list (ys := xs.map encQ) (News.isList (by assumption) (by k_mem)) (by simpa using hys) ?_ ?_
      · have := enc_sum xs hx
        rw [List.length_map]
        show _ + xs.length * 1 ≤ _
        omega
      · intro t' k
        exact hR _ _ _ _ rfl (Fr.keep (by assumption)))
end Mine

/-! part B3 -/
namespace Mine
/-- what a turn must leave: the letters' relation one further, the iterator's own things as they stood -/
def TurnEnd (h₀ : Heap) (L : Addr) (own : List (Addr × Obj)) (J : (Str → Option Value) → List (Addr × Obj) → Prop) (s₁ : Shared) (f : Flow) (s₂ : Shared) : Prop :=
  f = .next ∧ ∃ h' tk m₂ news₂, s₂ = { s₁ with heap := h', toks := tk } ∧ Fr h₀ L h' m₂ ∧ News h₀ L h' (news₂ ++ own) ∧ (∀ p ∈ news₂, ∀ q ∈ own, p.1 ≠ q.1) ∧ J m₂ news₂
theorem TurnEnd.mk' {h₀ : Heap} {L : Addr} {own : List (Addr × Obj)} {J : (Str → Option Value) → List (Addr × Obj) → Prop} {s₁ : Shared} {h' : Heap} {tk : Nat} {m₂ : Str → Option Value} {news₂ all : List (Addr × Obj)}
    (F : Fr h₀ L h' m₂) (N : News h₀ L h' all) (hs : ∀ p ∈ news₂ ++ own, p ∈ all) (ha : ∀ p ∈ news₂, ∀ q ∈ own, p.1 ≠ q.1) (hJ : J m₂ news₂) :
    TurnEnd h₀ L own J s₁ .next ⟨h', s₁.gens, s₁.drawn, tk, s₁.os⟩ := ⟨rfl, h', tk, m₂, news₂, rfl, F, fun p hp => N p (hs p hp), ha, hJ⟩
theorem own_list {h : Heap} : ∀ (fx : List Addr), (∀ b ∈ fx, ∃ o, h.get? b = some o) → ∃ own : List (Addr × Obj), own.map (·.1) = fx ∧ ∀ p ∈ own, h.get? p.1 = some p.2
  | [], _ => ⟨[], rfl, fun _ hp => nomatch hp⟩
  | b :: r, h => by
    obtain ⟨o, ho⟩ := h b (.head _)
    obtain ⟨own, e, ho'⟩ := own_list r fun c hc => h c (.tail _ hc)
    refine ⟨(b, o) :: own, by rw [List.map_cons, e], fun p hp => ?_⟩
    rcases List.mem_cons.mp hp with rfl | hp
    · exact ho
    · exact ho' p hp
section
variable {prog : Program} {w : World} {A : Around} {E : Value → Shared → Prop} {s s₂ : Shared} {h₀ : Heap} {env : Env} {x : Str} {body : List Stmt} {Q : Flow → Shared → Prop}
theorem at_walk {I : Addr} {fp wr : List Addr} {n : Nat} {P : Nat → Value → Prop} {St : Nat → Heap → Prop} {m : Str → Option Value} {news : List (Addr × Obj)} (fx : List Addr)
    (J : Nat → (Str → Option Value) → List (Addr × Obj) → Prop)
    (W : Walks prog w A I fp wr n P St) (hLf : env.locals ∉ fp) (hwr : ∀ b ∈ wr, b ∈ fx) (hfx : ∀ b ∈ fx, b ∈ fp ∧ h₀.get? b = none) (hfp : ∀ b ∈ fp, h₀.get? b = none → b ∈ fx)
    (hlive : ∀ i h, St i h → ∀ b ∈ fx, ∃ o, h.get? b = some o)
    (hst : St 0 s₂.heap) (F : Fr h₀ env.locals s₂.heap m) (N : News h₀ env.locals s₂.heap news) (hnw : ∀ p ∈ news, p.1 ∉ fx) (hj : J 0 m news)
    (turn : ∀ i v m₁ news₁ h tk own, i < n → P i v → J i m₁ news₁ → own.map (·.1) = fx → (∀ p ∈ news₁, ∀ q ∈ own, p.1 ≠ q.1) →
      Fr h₀ env.locals h (fun y => if y = x then some v else m₁ y) → News h₀ env.locals h (news₁ ++ own) →
      wpAny (model prog w) A (execs body env) (TurnEnd h₀ env.locals own (J (i + 1)) { s₂ with heap := h, toks := tk }) E { s₂ with heap := h, toks := tk })
    (done : ∀ h' tk m' news', Fr h₀ env.locals h' m' → News h₀ env.locals h' news' → J n m' news' → Q .next { s₂ with heap := h', toks := tk }) :
    LoopAtV prog w A h₀ env x body Q E (.ref I) s₂ := by
  let J' : Nat → (Str → Option Value) → List (Addr × Obj) → Prop := fun i m₁ news₁ => J i m₁ news₁ ∧ ∀ p ∈ news₁, p.1 ∉ fx
  refine ⟨I, fp, wr, n, P, St, m, news, J', rfl, W, hLf, (fun b hb => (hfx b (hwr b hb)).2), (fun p hp h => hnw p hp (hwr _ h)), hst, F, N, ⟨hj, hnw⟩, ?_, ?_⟩
  · rintro i v m₁ news₁ s₁ own₀ ⟨hh, tk, rfl⟩ hi hP ⟨hJ, hoff⟩ _ hown1 hown2 hown3 hst' F₁ N₁
    obtain ⟨own, he, ho⟩ := own_list fx (hlive _ _ hst')
    have hmem : ∀ p ∈ own, p ∈ own₀ := fun p hp => by
      have hb : p.1 ∈ fx := he ▸ List.mem_map_of_mem hp
      exact hown3 p.1 (hfx _ hb).1 (hfx _ hb).2 p.2 (ho p hp)
    have hback : ∀ p ∈ own₀, p ∈ own := fun p hp => by
      have hb : p.1 ∈ fx := hfp _ (hown1 p hp) (N₁ p (List.mem_append_left _ hp)).2.2
      rw [← he] at hb
      obtain ⟨q, hq, e⟩ := List.mem_map.mp hb
      have h1 := ho q hq
      rw [e, hown2 p hp] at h1
      have : p = q := Prod.ext e.symm (Option.some.inj h1)
      rw [this]; exact hq
    have hap : ∀ p ∈ news₁, ∀ q ∈ own, p.1 ≠ q.1 := fun p hp q hq e => hoff p hp (by rw [e, ← he]; exact List.mem_map_of_mem hq)
    have N₂ : News h₀ env.locals hh (news₁ ++ own) := fun p hp => by
      rcases List.mem_append.mp hp with h1 | h1
      · exact N₁ p (List.mem_append_right _ h1)
      · exact N₁ p (List.mem_append_left _ (hmem p h1))
    refine wpAny_mono (turn i v m₁ news₁ hh tk own hi hP hJ he hap F₁ N₂) (fun f s₃ ht => ?_) fun _ _ e => e
    obtain ⟨rfl, h', tk', m₂, news₂, rfl, F', N', ha, hJ'⟩ := ht
    refine LoopStepV.next ⟨rfl, h', tk', m₂, news₂, rfl, F', fun p hp => ?_, fun p hp hm => ?_, hJ', fun p hp hm => ?_⟩
    · rcases List.mem_append.mp hp with h1 | h1
      · exact N' p (List.mem_append_right _ (hback p h1))
      · exact N' p (List.mem_append_left _ h1)
    · have hb := hwr _ hm
      rw [← he] at hb
      obtain ⟨q, hq, e⟩ := List.mem_map.mp hb
      exact ha p hp q hq e.symm
    · rw [← he] at hm
      obtain ⟨q, hq, e⟩ := List.mem_map.mp hm
      exact ha p hp q hq e.symm
  · rintro h' tk m' news' F' N' _ ⟨hJ, _⟩
    exact done h' tk m' news' F' N' hJ
/-- a for over a text that a value holds -/
theorem for_txt {z : Str} {t : Tok} {m : Str → Option Value} {news : List (Addr × Obj)} (J : Str → Nat → (Str → Option Value) → List (Addr × Obj) → Prop)
    (hh : A.handled = none) (F : Fr h₀ env.locals s.heap m) (N : News h₀ env.locals s.heap news) (hj : J z 0 m news)
    (turn : ∀ I oI i c u m₁ news₁ h tk, (cs z)[i]? = some c → J z i m₁ news₁ → (∀ p ∈ news, p.1 < I) → (∀ p ∈ news₁, p.1 ≠ I) →
      Fr h₀ env.locals h (fun y => if y = x then some (.str ⟨#[c]⟩ u) else m₁ y) → News h₀ env.locals h (news₁ ++ [(I, oI)]) →
      wpAny (model prog w) A (execs body env) (TurnEnd h₀ env.locals [(I, oI)] (J z (i + 1)) { s with heap := h, toks := tk }) E { s with heap := h, toks := tk })
    (done : ∀ h' tk m' news', Fr h₀ env.locals h' m' → News h₀ env.locals h' news' → J z (cs z).length m' news' → Q .next { s with heap := h', toks := tk }) :
    wpAny (model prog w) A (pyIter (.str z t)) (fun it s₂ => LoopAtV prog w A h₀ env x body Q E it s₂) E s := by
  have hfresh : h₀.get? s.heap.objs.size = none := by
    cases q : h₀.get? s.heap.objs.size with
    | none => rfl
    | some o' => exact absurd (Heap.lt_size (F.keep _ _ q)) (Nat.lt_irrefl _)
  have hlt : ∀ p ∈ news, p.1 < s.heap.objs.size := fun p hp => Heap.lt_size (N p hp).1
  have hLs := F.ns.lt
  have key : ∀ (cls : String) (o : Obj), Walks prog w A s.heap.objs.size [s.heap.objs.size] [s.heap.objs.size] z.cps.size (SignAt z) (fun i h => h.IsStrIter s.heap.objs.size cls z t i) →
      (s.heap.push o).IsStrIter s.heap.objs.size cls z t 0 → LoopAtV prog w A h₀ env x body Q E (.ref s.heap.objs.size) { s with heap := s.heap.push o } := by
    intro cls o hW hst
    refine at_walk [s.heap.objs.size] (J z) hW (fun hm => Nat.ne_of_lt hLs (List.mem_singleton.mp hm)) (fun b hb => hb) (fun b hb => ⟨hb, by rw [List.mem_singleton.mp hb]; exact hfresh⟩) (fun b hb _ => hb) (fun i h st b hb => ?_) hst (F.push _) (fun p hp => ⟨Heap.get?_push_of_some _ (N p hp).1, (N p hp).2⟩)
      (fun p hp hm => Nat.ne_of_lt (hlt p hp) (List.mem_singleton.mp hm)) hj ?_ (fun h' tk m' news' F' N' hJ => done h' tk m' news' F' N' (by simpa using hJ))
    · rw [List.mem_singleton.mp hb]
      obtain ⟨o, ho, _⟩ := st
      exact ⟨o, ho⟩
    · rintro i v m₁ news₁ h tk own hi ⟨c, u, hc, rfl⟩ hJ he hap F' N'
      obtain ⟨⟨I, oI⟩, rfl⟩ : ∃ p, own = [p] := by
        cases own with
        | nil => simp at he
        | cons p r => cases r with
          | nil => exact ⟨p, rfl⟩
          | cons _ _ => simp at he
      obtain rfl : I = s.heap.objs.size := by simpa using he
      exact turn _ oI i c u m₁ news₁ h tk (by simpa using hc) hJ hlt (fun p hp => hap p hp _ (.head _)) F' N'
  cases ha : z.cps.all (· < 128)
  · exact wpAny_pyIter_wide ha (key _ _ (Walks.strWide hh _ z t) ⟨_, Heap.get?_push_size _ rfl, rfl, rfl⟩)
  · exact wpAny_pyIter_ascii ha (key _ _ (Walks.strAscii hh _ z t) ⟨_, Heap.get?_push_size _ rfl, rfl, rfl⟩)
end
section
variable {prog : Program} {w : World} {A : Around} {E : Value → Shared → Prop} {s : Shared} {h₀ : Heap} {L a : Addr} {name : Str} {scope : Scope} {cd : Value} {x y : Str} {px py pos : Pos} {body : List Stmt} {Q : Flow → Shared → Prop}
/-- a for over a local that holds a text -/
theorem For_txt {z : Str} {t : Tok} {m : Str → Option Value} {news : List (Addr × Obj)} (J : Str → Nat → (Str → Option Value) → List (Addr × Obj) → Prop)
    (F : Fr h₀ L s.heap m) (N : News h₀ L s.heap news) (hv : m y = some (.str z t)) (hh : A.handled = none) (hj : J z 0 m news)
    (turn : ∀ I oI i c u m₁ news₁ h tk, (cs z)[i]? = some c → J z i m₁ news₁ → (∀ p ∈ news, p.1 < I) → (∀ p ∈ news₁, p.1 ≠ I) →
      Fr h₀ L h (fun y => if y = x then some (.str ⟨#[c]⟩ u) else m₁ y) → News h₀ L h (news₁ ++ [(I, oI)]) →
      wpAny (model prog w) A (execs body (envOf name scope L a cd)) (TurnEnd h₀ L [(I, oI)] (J z (i + 1)) { s with heap := h, toks := tk }) E { s with heap := h, toks := tk })
    (done : ∀ h' tk m' news', Fr h₀ L h' m' → News h₀ L h' news' → J z (cs z).length m' news' → Q .next { s with heap := h', toks := tk })
    (hk : scope.kind = .function) (hx : (envOf name scope L a cd).kindOf x = some .local) (hy : (envOf name scope L a cd).kindOf y = some .local) (hd : (y == ("__debug__" : Str)) = false)
    (hE : PassesOwn (model prog w) A (envOf name scope L a cd) E) :
    wpAny (model prog w) A (exec (.For (.Name x px) (.Name y py) body [] pos) (envOf name scope L a cd)) Q E s := by
  refine For_invV h₀ hx ?_ (ld F hv (for_txt (env := envOf name scope L a cd) J hh F N hj turn done) hk hy hd) (by intro _; rfl) hE
  show (scope.kind == .class || (scope.kind == .module && L != mainGlobals)) = false
  rw [hk]; rfl
end

section
variable {prog : Program} {w : World} {A : Around} {E : Value → Shared → Prop} {s : Shared} {h₀ : Heap} {L D : Addr} {m : Str → Option Value} {news news' : List (Addr × Obj)} {n : Nat}
theorem ki_setL_last (v0 v : Value) : ∀ pre : List Value, ki_setL (pre ++ [v0]) pre.length v = some (pre ++ [v])
  | [] => rfl
  | x :: r => by
    show (match ki_setL (r ++ [v0]) r.length v with | some q => some (x :: q) | none => none) = _
    rw [ki_setL_last v0 v r]; rfl
theorem seqIndex_last (k : Nat) : seqIndex? (-1) (k + 1) = some k := by
  rw [PySem.seqIndex_neg (by decide) (by omega)]
  congr 1
  omega
theorem set_last {pre : List Value} {v0 v : Value} {t : Tok} {Q : Unit → Shared → Prop} (F : Fr h₀ L s.heap m) (N : News h₀ L s.heap news) (U : Upd D (W.listOf (pre ++ [v0]).toArray n) (W.listOf (pre ++ [v]).toArray n) news news')
    (h : ∀ h', Fr h₀ L h' m → News h₀ L h' news' → Q () { s with heap := h' }) : wpAny (model prog w) A (setItem (.ref D) (.int (-1) t) v) Q E s :=
  ki_setNeg (its := (pre ++ [v0]).toArray) (n := n) (j := pre.length) F N (by decide) (by decide) (by rw [List.size_toArray, List.length_append]; exact seqIndex_last _) (ki_setL_last v0 v pre) U h
theorem get_last {value slice : Expr} {pre : List Value} {v : Value} {u : Tok} {Q : Value → Shared → Prop} (hl : s.heap.IsList D (pre ++ [v]).toArray) (h : Q v s)
    (hs : subscripted slice false (.ref D) (.int (-1) u) = operate [.ref D, .int (-1) u] (getItem (.ref D) (.int (-1) u)) := by with_unfolding_all rfl) :
    wpAny (model prog w) A (subscriptTail value slice (.ref D) (.int (-1) u)) Q E s := by
  refine tail_any hl.typeIs slot_list_getitem.lookup (wpAny_getItem_list_neg hl (by decide) (by simp; omega) (by decide) (x := v) ?_ h) hs
  have e : ((-1 : Int) + ((pre ++ [v]).toArray.size : Int)).toNat = pre.length := by simp; omega
  rw [e]
  simp
end

section
variable {prog : Program} {w : World} {A : Around} {E : Value → Shared → Prop} {s : Shared} {h₀ : Heap} {L D : Addr} {m : Str → Option Value} {news news' : List (Addr × Obj)} {n : Nat}
theorem append_L {vs : List Value} {v : Value} {Q : Value → Shared → Prop} (F : Fr h₀ L s.heap m) (N : News h₀ L s.heap news) (U : Upd D (W.listOf vs.toArray n) (W.listOf (vs ++ [v]).toArray (n + 1)) news news') (hz : vs.length ≤ 100000)
    (h : ∀ h', Fr h₀ L h' m → News h₀ L h' news' → Q .none { s with heap := h' }) : wpAny (model prog w) A (call (.builtin "list.append") [.ref D, v]) Q E s := by
  refine append_K F N (its := vs.toArray) (n := n) (by simpa using U) h ?_
  rw [List.size_toArray]
  exact Nat.le_trans hz (by decide)
end

section
variable {prog : Program} {w : World} {A : Around} {E : Value → Shared → Prop} {s : Shared} {h₀ : Heap} {L a : Addr} {name : Str} {scope : Scope} {cd : Value} {x y : Str} {px py pos : Pos} {body : List Stmt} {Q : Flow → Shared → Prop}
/-- a for over a local that holds a list of the ground's, of texts -/
theorem For_strs {ax : Addr} {vs : List Value} {xs : List Str} {m : Str → Option Value} {news : List (Addr × Obj)} (J : List Str → Nat → (Str → Option Value) → List (Addr × Obj) → Prop)
    (F : Fr h₀ L s.heap m) (N : News h₀ L s.heap news) (hv : m y = some (.ref ax)) (hl : h₀.IsList ax vs.toArray) (hS : StrsAre vs xs) (hh : A.handled = none) (hj : J xs 0 m news)
    (turn : ∀ I oI i z u m₁ news₁ h tk, xs[i]? = some z → J xs i m₁ news₁ → (∀ p ∈ news, p.1 < I) → (∀ p ∈ news₁, p.1 ≠ I) →
      Fr h₀ L h (fun y => if y = x then some (.str z u) else m₁ y) → News h₀ L h (news₁ ++ [(I, oI)]) →
      wpAny (model prog w) A (execs body (envOf name scope L a cd)) (TurnEnd h₀ L [(I, oI)] (J xs (i + 1)) { s with heap := h, toks := tk }) E { s with heap := h, toks := tk })
    (done : ∀ h' tk m' news', Fr h₀ L h' m' → News h₀ L h' news' → J xs xs.length m' news' → Q .next { s with heap := h', toks := tk })
    (hk : scope.kind = .function) (hx : (envOf name scope L a cd).kindOf x = some .local) (hy : (envOf name scope L a cd).kindOf y = some .local) (hd : (y == ("__debug__" : Str)) = false)
    (hE : PassesOwn (model prog w) A (envOf name scope L a cd) E) :
    wpAny (model prog w) A (exec (.For (.Name x px) (.Name y py) body [] pos) (envOf name scope L a cd)) Q E s := by
  have hp : ((envOf name scope L a cd).scope.kind == .class || ((envOf name scope L a cd).scope.kind == .module && (envOf name scope L a cd).locals != (envOf name scope L a cd).globals)) = false := by
    show (scope.kind == .class || (scope.kind == .module && L != mainGlobals)) = false
    rw [hk]; rfl
  refine For_invV h₀ hx hp (ld F hv ?_ hk hy hd) (by intro _; rfl) hE
  have hls : s.heap.IsList ax vs.toArray := hl.at fun o e => F.keep ax o e
  obtain ⟨ol, hol, _⟩ := id hl
  have hax : ax < h₀.objs.size := Heap.lt_size hol
  have hLs := F.ns.lt
  have hab := F.above
  have hne : ax ≠ s.heap.objs.size := Nat.ne_of_lt (Nat.lt_trans (Nat.lt_of_lt_of_le hax hab) hLs)
  have hfresh : h₀.get? s.heap.objs.size = none := by
    cases q : h₀.get? s.heap.objs.size with
    | none => rfl
    | some o' => exact absurd (Heap.lt_size (F.keep _ _ q)) (Nat.lt_irrefl _)
  have hlt : ∀ p ∈ news, p.1 < s.heap.objs.size := fun p hp => Heap.lt_size (N p hp).1
  refine wpAny_pyIter_list hls ?_
  have hsz : vs.toArray.size = xs.length := by simp [hS.length]
  refine at_walk (env := envOf name scope L a cd) [s.heap.objs.size] (J xs) (Walks.list (prog := prog) (w := w) hh s.heap.objs.size ax hne vs.toArray) ?_ (fun b hb => hb) (fun b hb => ⟨by rw [List.mem_singleton.mp hb]; exact .head _, by rw [List.mem_singleton.mp hb]; exact hfresh⟩) ?_
    (fun i h st b hb => ?_) ⟨⟨_, Heap.get?_push_size _ rfl, rfl, rfl⟩, hls.push _⟩ (F.push _) (fun p hp => ⟨Heap.get?_push_of_some _ (N p hp).1, (N p hp).2⟩) (fun p hp hm => Nat.ne_of_lt (hlt p hp) (List.mem_singleton.mp hm)) hj ?_ (fun h' tk m' news' F' N' hJ => done h' tk m' news' F' N' (by rw [hsz] at hJ; exact hJ))
  · intro hm
    rcases List.mem_cons.mp hm with e | hm
    · exact Nat.ne_of_lt hLs e
    · exact Nat.ne_of_lt (Nat.lt_of_lt_of_le hax hab) (List.mem_singleton.mp hm).symm
  · intro b hb hn
    rcases List.mem_cons.mp hb with rfl | hb
    · exact .head _
    · rw [List.mem_singleton.mp hb, hol] at hn; cases hn
  · rw [List.mem_singleton.mp hb]
    obtain ⟨⟨o, ho, _⟩, _⟩ := st
    exact ⟨o, ho⟩
  · rintro i v m₁ news₁ h tk own hi hP hJ he hap F' N'
    obtain ⟨⟨I, oI⟩, rfl⟩ : ∃ p, own = [p] := by
      cases own with
      | nil => simp at he
      | cons p r => cases r with
        | nil => exact ⟨p, rfl⟩
        | cons _ _ => simp at he
    obtain rfl : I = s.heap.objs.size := by simpa using he
    obtain ⟨z, u, rfl, hz⟩ := hS.item i v (by simpa using hP)
    exact turn _ oI i z u m₁ news₁ h tk hz hJ hlt (fun p hp => hap p hp _ (.head _)) F' N'
end

section
variable {prog : Program} {w : World} {A : Around} {E : Value → Shared → Prop} {s : Shared} {h₀ : Heap} {L D b : Addr} {m : Str → Option Value} {news news' : List (Addr × Obj)} {n n2 : Nat}
def NeAll (d : Nat) : List (Addr × Obj) → Prop
  | [] => True
  | p :: r => @Ne Nat p.1 d ∧ NeAll d r
theorem tooLong_no {a b : Nat} (h : a + b ≤ 100000) : Builtin.List.listTooLong (a + b) = false := by
  unfold Builtin.List.listTooLong
  have e : sizeLine = 16777216 := rfl
  simp
  omega
theorem extend_L {vs ws : List Value} {Q : Value → Shared → Prop} (F : Fr h₀ L s.heap m) (N : News h₀ L s.heap news) (hb : (b, W.listOf ws.toArray n2) ∈ news) (hne : ws ≠ [])
    (U : Upd D (W.listOf vs.toArray n) (W.listOf (vs ++ ws).toArray (n + 1)) news news') (hz : vs.length + ws.length ≤ 100000)
    (h : ∀ h', Fr h₀ L h' m → News h₀ L h' news' → Q .none { s with heap := h' }) : wpAny (model prog w) A (call (.builtin "list.extend") [.ref D, .ref b]) Q E s := by
  refine kl_extend (its := vs.toArray) (its2 := ws.toArray) (n := n) F N hb rfl ?_ U ?_ ?_ ?_ h
  · simpa using hne
  · rw [List.size_toArray, List.size_toArray, tooLong_no hz, Bool.and_false]; exact Bool.false_ne_true
  · exact Nat.le_trans (Nat.le_trans (Nat.le_add_right _ _) hz) (by decide)
  · rw [List.size_toArray, List.size_toArray]; exact Nat.le_trans hz (by decide)
theorem News.add {h h' : Heap} {a : Addr} {o : Obj} (F : Fr h₀ L h m) (N : News h₀ L h news) (k : h.StaysIn h') (e : h'.get? a = some o) (hf : h.get? a = none) : News h₀ L h' ((a, o) :: news) := by
  intro p hp
  rcases List.mem_cons.mp hp with rfl | hp
  · refine ⟨e, ?_, ?_⟩
    · rintro rfl
      obtain ⟨oL, _, _, hL, _⟩ := F.ns
      rw [hf] at hL; cases hL
    · cases q : h₀.get? a with
      | none => rfl
      | some o' => rw [F.keep _ _ q] at hf; cases hf
  · exact ⟨k _ _ (N p hp).1, (N p hp).2⟩
theorem NeAll.of {a : Nat} : ∀ {l : List (Addr × Obj)}, (∀ p ∈ l, p.1 ≠ a) → NeAll a l
  | [], _ => trivial
  | p :: _, h => ⟨h p (.head _), NeAll.of fun q hq => h q (.tail _ hq)⟩
theorem News.fresh_ne {h : Heap} {a : Addr} (N : News h₀ L h news) (hf : h.get? a = none) : NeAll a news := NeAll.of (by
  rintro p hp rfl
  rw [(N p hp).1] at hf; cases hf)
end

section
variable {prog : Program} {w : World} {A : Around} {E : Value → Shared → Prop} {s : Shared} {h₀ : Heap} {L a : Addr} {name : Str} {scope : Scope} {cd : Value} {x : Str} {body : List Stmt} {Q : Flow → Shared → Prop}
/-- a for over a list of ints that the call has made -/
theorem iter_made {D : Addr} {vs : List Value} {ns : List Int} {k : Nat} {m : Str → Option Value} {news : List (Addr × Obj)} (J : List Int → Nat → (Str → Option Value) → List (Addr × Obj) → Prop)
    (F : Fr h₀ L s.heap m) (N : News h₀ L s.heap ((D, W.listOf vs.toArray k) :: news)) (hI : IntsAre vs ns) (hD : ∀ p ∈ news, p.1 ≠ D) (hh : A.handled = none) (hj : J ns 0 m news)
    (turn : ∀ I oI oD i z u m₁ news₁ h tk, ns[i]? = some z → J ns i m₁ news₁ → (∀ p ∈ news₁, p.1 ≠ I ∧ p.1 ≠ D) → D < I →
      Fr h₀ L h (fun y => if y = x then some (.int z u) else m₁ y) → News h₀ L h (news₁ ++ [(I, oI), (D, oD)]) →
      wpAny (model prog w) A (execs body (envOf name scope L a cd)) (TurnEnd h₀ L [(I, oI), (D, oD)] (J ns (i + 1)) { s with heap := h, toks := tk }) E { s with heap := h, toks := tk })
    (done : ∀ h' tk m' news', Fr h₀ L h' m' → News h₀ L h' news' → J ns ns.length m' news' → Q .next { s with heap := h', toks := tk }) :
    wpAny (model prog w) A (pyIter (.ref D)) (fun it s₂ => LoopAtV prog w A h₀ (envOf name scope L a cd) x body Q E it s₂) E s := by
  have z := N (D, W.listOf vs.toArray k) (.head _)
  have hls : s.heap.IsList D vs.toArray := ⟨_, z.1, rfl, k, rfl⟩
  have hDs : D < s.heap.objs.size := Heap.lt_size z.1
  have hLs := F.ns.lt
  have hfresh : h₀.get? s.heap.objs.size = none := by
    cases q : h₀.get? s.heap.objs.size with
    | none => rfl
    | some o' => exact absurd (Heap.lt_size (F.keep _ _ q)) (Nat.lt_irrefl _)
  have N₀ : News h₀ L s.heap news := fun p hp => N p (.tail _ hp)
  have hlt : ∀ p ∈ news, p.1 < s.heap.objs.size := fun p hp => Heap.lt_size (N₀ p hp).1
  refine wpAny_pyIter_list hls ?_
  have hsz : vs.toArray.size = ns.length := by simp [hI.length]
  refine at_walk (env := envOf name scope L a cd) [s.heap.objs.size, D] (J ns) (Walks.list (prog := prog) (w := w) hh s.heap.objs.size D (Nat.ne_of_lt hDs) vs.toArray) ?_ (fun b hb => ?_) (fun b hb => ⟨hb, ?_⟩) (fun b hb _ => hb)
    (fun i h st b hb => ?_) ⟨⟨_, Heap.get?_push_size _ rfl, rfl, rfl⟩, hls.push _⟩ (F.push _) (fun p hp => ⟨Heap.get?_push_of_some _ (N₀ p hp).1, (N₀ p hp).2⟩) (fun p hp hm => ?_) hj ?_ (fun h' tk m' news' F' N' hJ => done h' tk m' news' F' N' (by rw [hsz] at hJ; exact hJ))
  · intro hm
    rcases List.mem_cons.mp hm with e | hm
    · exact Nat.ne_of_lt hLs e
    · exact z.2.1 (List.mem_singleton.mp hm).symm
  · rw [List.mem_singleton.mp hb]; exact .head _
  · rcases List.mem_cons.mp hb with rfl | hb
    · exact hfresh
    · rw [List.mem_singleton.mp hb]; exact z.2.2
  · obtain ⟨⟨o, ho, _⟩, ⟨o2, ho2, _⟩⟩ := st
    rcases List.mem_cons.mp hb with rfl | hb
    · exact ⟨o, ho⟩
    · rw [List.mem_singleton.mp hb]; exact ⟨o2, ho2⟩
  · rcases List.mem_cons.mp hm with e | hm
    · exact Nat.ne_of_lt (hlt p hp) e
    · exact hD p hp (List.mem_singleton.mp hm)
  · rintro i v m₁ news₁ h tk own hi hP hJ he hap F' N'
    obtain ⟨⟨I, oI⟩, ⟨D', oD⟩, rfl⟩ : ∃ p q, own = [p, q] := by
      cases own with
      | nil => simp at he
      | cons p r => cases r with
        | nil => simp at he
        | cons q r => cases r with
          | nil => exact ⟨p, q, rfl⟩
          | cons _ _ => simp at he
    obtain ⟨rfl, rfl⟩ : I = s.heap.objs.size ∧ D' = D := by simpa using he
    have hlt' : i < ns.length := by rw [← hsz]; exact hi
    obtain ⟨t, hx⟩ := hI.get i ns[i] (by simp [hlt'])
    have hv : v = .int ns[i] t := by
      have hP' : vs[i]? = some v := by simpa using hP
      rw [hx] at hP'; exact (Option.some.inj hP').symm
    subst hv
    exact turn _ oI oD i ns[i] t m₁ news₁ h tk (by simp [hlt']) hJ (fun p hp => ⟨hap p hp _ (.head _), hap p hp _ (.tail _ (.head _))⟩) hDs F' N'
end
end Mine

/-! part C3 -/
namespace Mine
local macro_rules | `(tactic| walk_at "zz0") => `(tactic| fail "zz")

def strandsStep (row : List Str) (c : Nat) : List Str :=
  if c = 39 then row.dropLast ++ [row.getLastD ⟨#[]⟩ ++ ⟨#[c]⟩, Str.ofString "'", Str.ofString "'"] else row.dropLast ++ [row.getLastD ⟨#[]⟩ ++ ⟨#[c]⟩]
abbrev strandsM (x : Str) (t : Tok) (l : Addr) (v : Option Value) : Str → Option Value := fun z => if z = Str.ofString "sign" then v else if z = Str.ofString "row" then some (.ref l) else [(Str.ofString "word", Value.str x t)].lookup z
def strandsJ (x : Str) (i : Nat) (m : Str → Option Value) (news : List (Addr × Obj)) : Prop :=
  ∃ t l v pre y ty n, m = strandsM x t l v ∧ news = [(l, W.listOf (pre ++ [Value.str y ty]).toArray n)] ∧ StrsAre (pre ++ [Value.str y ty]) (((cs x).take i).foldl strandsStep [Str.ofString "'"]) ∧ y.length ≤ i + 1 ∧ pre.length ≤ 2 * i
theorem strandsJ_start {x : Str} {t tt : Tok} {l : Addr} {m : Str → Option Value} {n : Nat} (hm : m = strandsM x t l none) : strandsJ x 0 m [(l, W.listOf #[Value.str (Str.ofString "'") tt] n)] :=
  ⟨t, l, none, [], _, tt, n, hm, rfl, .cons _ _ .nil, by decide +kernel, Nat.le_refl _⟩
theorem strandsM_eq {x : Str} {t : Tok} {l : Addr} : (fun y => if y = Str.ofString "row" then some (Value.ref l) else List.lookup y [(Str.ofString "word", Value.str x t)]) = strandsM x t l none := by
  funext y
  unfold strandsM
  by_cases h : y = Str.ofString "sign"
  · subst h
    rw [if_pos rfl, if_neg (by decide +kernel)]
    rfl
  · rw [if_neg h]
local macro_rules | `(tactic| walk_at "subscriptTail") => `(tactic| (k_here; (with_reducible show wpAny _ _ (subscriptTail _ _ (Value.ref _) (Value.int (-1) _)) _ _ _); k_dflt (refine get_last (News.isList (by assumption) (by k_mem)) ?_)))
local macro_rules | `(tactic| walk_at "setItem ref int") => `(tactic| (k_here; (with_reducible show wpAny _ _ (setItem (Value.ref _) (Value.int (-1) _) _) _ _ _); k_dflt (refine' set_last ?F ?N ?U ?_; (case F => k_asm); (case N => k_asm); (case U => k_upd)); intro h' F' N'; (try k_sweep)))
local macro_rules | `(tactic| walk_at "call builtin:list.append") => `(tactic| (k_here; k_dflt (refine' append_L ?F ?N ?U ?Z ?_; (case F => k_asm); (case N => k_asm); (case U => k_upd); (case Z => (simp only [List.length_append, List.length_cons, List.length_nil]; omega))); intro h' F' N'; (try k_sweep)))
theorem strsAre_snoc {pre : List Value} {y : Str} {ty : Tok} {row : List Str} (h : StrsAre (pre ++ [Value.str y ty]) row) : ∃ r, row = r ++ [y] ∧ StrsAre pre r := by
  induction pre generalizing row with
  | nil => cases h with | cons _ _ h => cases h; exact ⟨[], rfl, .nil⟩
  | cons v r ih =>
    cases h with
    | cons z t h =>
      obtain ⟨r', rfl, h'⟩ := ih h
      exact ⟨z :: r', rfl, .cons _ _ h'⟩
theorem strandsStep_snoc (r : List Str) (y : Str) (c : Nat) : strandsStep (r ++ [y]) c = if c = 39 then r ++ [y ++ ⟨#[c]⟩, Str.ofString "'", Str.ofString "'"] else r ++ [y ++ ⟨#[c]⟩] := by
  simp [strandsStep]
theorem strandsM_put {x : Str} {t : Tok} {l : Addr} {v w : Option Value} : (fun y => if y = Str.ofString "sign" then w else strandsM x t l v y) = strandsM x t l w := by
  funext y
  unfold strandsM
  split
  · rfl
  · rfl
theorem take_fold {x : Str} {i c : Nat} (hc : (cs x)[i]? = some c) : ((cs x).take (i + 1)).foldl strandsStep [Str.ofString "'"] = strandsStep (((cs x).take i).foldl strandsStep [Str.ofString "'"]) c := by
  rw [List.take_add_one, hc]; simp
theorem one_is {c : Nat} {b : Bool} (h : ((⟨#[c]⟩ : Str) == Str.ofString "'") = b) : decide (c = 39) = b := by
  rw [lit1] at h
  rw [← h]
  by_cases hc : c = 39
  · subst hc; simp
  · simp [hc]
theorem strandsJ_quote {x y : Str} {i c n : Nat} {ty t1 t2 t3 : Tok} {t' : Tok} {l : Addr} {v w : Option Value} {pre : List Value} (hc : (cs x)[i]? = some c) (hS : StrsAre (pre ++ [Value.str y ty]) (((cs x).take i).foldl strandsStep [Str.ofString "'"]))
    (hy : y.length ≤ i + 1) (hp : pre.length ≤ 2 * i) (h : ((⟨#[c]⟩ : Str) == Str.ofString "'") = true) :
    strandsJ x (i + 1) (fun z => if z = Str.ofString "sign" then w else strandsM x t' l v z) [(l, W.listOf (pre ++ [Value.str (y ++ ⟨#[c]⟩) t1] ++ [Value.str (Str.ofString "'") t2] ++ [Value.str (Str.ofString "'") t3]).toArray n)] := by
  have hc' : c = 39 := of_decide_eq_true (one_is h)
  obtain ⟨r, hr, hS'⟩ := strsAre_snoc hS
  refine ⟨t', l, w, pre ++ [Value.str (y ++ ⟨#[c]⟩) t1] ++ [Value.str (Str.ofString "'") t2], Str.ofString "'", t3, n, strandsM_put, rfl, ?_, ?_, ?_⟩
  · rw [take_fold hc, hr, strandsStep_snoc, if_pos hc', List.append_assoc, List.append_assoc]
    exact hS'.append' (.cons _ _ (.cons _ _ (.cons _ _ .nil)))
  · have : (Str.ofString "'").length = 1 := by decide +kernel
    omega
  · simp only [List.length_append, List.length_cons, List.length_nil]; omega
theorem strandsJ_plain {x y : Str} {i c n : Nat} {ty t1 : Tok} {t' : Tok} {l : Addr} {v w : Option Value} {pre : List Value} (hc : (cs x)[i]? = some c) (hS : StrsAre (pre ++ [Value.str y ty]) (((cs x).take i).foldl strandsStep [Str.ofString "'"]))
    (hy : y.length ≤ i + 1) (hp : pre.length ≤ 2 * i) (h : ((⟨#[c]⟩ : Str) == Str.ofString "'") = false) :
    strandsJ x (i + 1) (fun z => if z = Str.ofString "sign" then w else strandsM x t' l v z) [(l, W.listOf (pre ++ [Value.str (y ++ ⟨#[c]⟩) t1]).toArray n)] := by
  have hc' : ¬ c = 39 := of_decide_eq_false (one_is h)
  obtain ⟨r, hr, hS'⟩ := strsAre_snoc hS
  refine ⟨t', l, w, pre, y ++ ⟨#[c]⟩, t1, n, strandsM_put, rfl, ?_, ?_, ?_⟩
  · rw [take_fold hc, hr, strandsStep_snoc, if_neg hc']
    exact hS'.append' (.cons _ _ .nil)
  · rw [Str.length_append]
    have : (⟨#[c]⟩ : Str).length = 1 := rfl
    omega
  · omega
def strandsQ (x : Str) : List Str :=
  let row := (cs x).foldl strandsStep [Str.ofString "'"]
  row.dropLast ++ [row.getLastD ⟨#[]⟩ ++ Str.ofString "'"]
theorem strands_call {w : World} {mean : ExcName → Option Value} {mg mb : Str → Option Value} {d u : Nat} {outer : List Env} {gg : Option (List Code)} {s : Shared} {R : Result → Shared → Prop} {x : Str} {t : Tok}
   (X : (hd.heap_39 w.params).In s.heap) (T : Top vw loo mean mg mb s.heap) (hd' : d ≤ 490) (hu : u ≤ 400) (hx : x.length ≤ 100)
   (hR : ∀ h' tk a (ws : List Value) n, h'.get? a = some (W.listOf ws.toArray n) → StrsAre ws (strandsQ x) → s.heap.get? a = none → s.heap.StaysIn h' → R (.ok (.ret (.ref a))) ⟨h', s.gens, s.drawn, tk, s.os⟩) :
   codeAny (model pg w) (Ar none d outer gg u) (.call (.ref 765) ⟨[.str x t],[]⟩) R s := by
  w_on
  w_strict (
    (refine' enter1 (by assumption) (Top.nolimit (by assumption)) ?k6 ?k7 ?k8 ?k9 ?kB ?_ ?c2 ?c3 ?c4 ?c5; (case k6 => k_is); (case k7 => k_is); (case k8 => (simp only [recursionLimit]; omega)); (case k9 => exact rfl); (case c5 => decide); (case kB => exact rfl); (case c2 => exact rfl); (case c3 => exact rfl); (case c4 => exact rfl); (try dsimp only [f46, f60, f87, f364, f371, f378, f540, f653, f660, f690, f697, f719, f726, f741, f748, f753, f758, f765, f772, f779, f784, f789, f794]))
    intro h' F N
    k_fold
    (repeat' (first | (k_unfold; (try dsimp only)) | ((fail_if_success (with_reducible show wpAny _ _ (exec (Stmt.For _ _ _ _ _) _) _ _ _)); first | walk1 | (dsimp only; walk1)) | fail "no step"))
    refine' For_txt strandsJ (by assumption) (by assumption) rfl rfl ?j0 ?turn ?done rfl rfl rfl (by decide) (by first | passes_own | with_unfolding_all passes_own)
    case j0 => exact strandsJ_start strandsM_eq
    case turn =>
      rintro I oI i c u m₁ news₁ h tk hc ⟨t', l, v, pre, y, ty, n, rfl, rfl, hS, hy, hp⟩ hlt hne F1 N1
      have hlI : @Ne Nat l I := hne _ (.head _)
      have hi : i < x.length := by rw [cs_length]; exact (List.getElem?_eq_some_iff.mp hc).1
      have hy2 : y.length ≤ 200 := by omega
      have hc1 : (⟨#[c]⟩ : Str).length ≤ 1 := Nat.le_refl _
      have hp2 : pre.length ≤ 200 := by omega
      dsimp only [List.cons_append, List.nil_append] at N1
      k_steps
      · exact TurnEnd.mk' (by assumption) (by assumption) (fun _ h => h) (fun p hp q hq => by rw [List.mem_singleton.mp hp, List.mem_singleton.mp hq]; exact hlI) (strandsJ_quote hc hS hy hp (by assumption))
      · exact TurnEnd.mk' (by assumption) (by assumption) (fun _ h => h) (fun p hp q hq => by rw [List.mem_singleton.mp hp, List.mem_singleton.mp hq]; exact hlI) (strandsJ_plain hc hS hy hp (by assumption))
    case done =>
      rintro h2 tk2 m2 news2 F2 N2 ⟨t', l, v, pre, y, ty, n, rfl, rfl, hS, hy, hp⟩
      have hy2 : y.length ≤ 200 := by rw [cs_length] at hx; omega
      have hp2 : pre.length ≤ 200 := by rw [cs_length] at hx; omega
      k_steps
      refine hR _ _ _ _ _ (News.get (by assumption) (by k_mem)) ?_ (News.fresh (by assumption) (by k_mem)) (Fr.keep (by assumption))
      rw [List.take_length] at hS
      obtain ⟨r, hr, hS'⟩ := strsAre_snoc hS
      simp only [strandsQ, hr, List.dropLast_concat, List.getLastD_concat]
      exact hS'.append' (.cons _ _ .nil))
end Mine

/-! part C4 -/
namespace Mine

def toldOf (x : Str) : List Str := if safeQ x = true then [x] else strandsQ x
def toldQ (xs : List Str) : List Str := xs.flatMap toldOf
abbrev toldM (a l : Addr) (v : Option Value) : Str → Option Value := fun z => if z = Str.ofString "word" then v else if z = Str.ofString "row" then some (.ref l) else [(Str.ofString "words", Value.ref a)].lookup z
def toldJ (a : Addr) (xs : List Str) (i : Nat) (m : Str → Option Value) (news : List (Addr × Obj)) : Prop :=
  ∃ l v vs n, m = toldM a l v ∧ news = [(l, W.listOf vs.toArray n)] ∧ StrsAre vs (toldQ (xs.take i)) ∧ vs.length ≤ 201 * i
theorem toldM_eq {a l : Addr} : (fun y => if y = Str.ofString "row" then some (Value.ref l) else List.lookup y [(Str.ofString "words", Value.ref a)]) = toldM a l none := by
  funext y
  unfold toldM
  by_cases h : y = Str.ofString "word"
  · subst h
    rw [if_pos rfl, if_neg (by decide +kernel)]
    rfl
  · rw [if_neg h]
theorem toldM_put {a l : Addr} {v w : Option Value} : (fun y => if y = Str.ofString "word" then w else toldM a l v y) = toldM a l w := by
  funext y
  unfold toldM
  split
  · rfl
  · rfl
theorem strandsStep_ne (row : List Str) (c : Nat) : strandsStep row c ≠ [] := by unfold strandsStep; split <;> simp
theorem strandsStep_le (row : List Str) (c : Nat) : (strandsStep row c).length ≤ row.length + 3 := by
  unfold strandsStep; split <;> simp <;> omega
theorem strandsStep_le2 (row : List Str) (c : Nat) (h : row ≠ []) : (strandsStep row c).length ≤ row.length + 2 := by
  have : 0 < row.length := List.length_pos_iff.mpr h
  unfold strandsStep; split <;> simp <;> omega
theorem strandsFold_le : ∀ (l : List Nat) (row : List Str), row ≠ [] → (l.foldl strandsStep row).length ≤ row.length + 2 * l.length
  | [], _, _ => by simp
  | c :: l, row, h => by
    have h1 := strandsStep_le2 row c h
    have h2 := strandsFold_le l (strandsStep row c) (strandsStep_ne row c)
    simp only [List.foldl_cons, List.length_cons] at *
    omega
theorem strandsQ_le (x : Str) : (strandsQ x).length ≤ 2 * x.length + 2 := by
  have h := strandsFold_le (cs x) [Str.ofString "'"] (by simp)
  rw [cs_length]
  simp only [strandsQ, List.length_append, List.length_dropLast, List.length_cons, List.length_nil] at *
  omega
theorem strands_le {ws : List Value} {x : Str} (h : StrsAre ws (strandsQ x)) : ws.length ≤ 2 * x.length + 2 := by rw [h.length]; exact strandsQ_le x
theorem strands_ne {ws : List Value} {x : Str} (h : StrsAre ws (strandsQ x)) : ws ≠ [] := by
  rintro rfl
  have := h.length
  simp [strandsQ] at this
theorem told_take {xs : List Str} {i : Nat} {z : Str} (hz : xs[i]? = some z) : toldQ (xs.take (i + 1)) = toldQ (xs.take i) ++ toldOf z := by
  rw [List.take_add_one, hz]; simp [toldQ]
theorem toldJ_safe {a l : Addr} {xs : List Str} {i n : Nat} {z : Str} {t : Tok} {v w : Option Value} {ws : List Value} (hz : xs[i]? = some z) (hW : StrsAre ws (toldQ (xs.take i))) (hwl : ws.length ≤ 201 * i) (h : safeQ z = true) :
    toldJ a xs (i + 1) (fun y => if y = Str.ofString "word" then w else toldM a l v y) [(l, W.listOf (ws ++ [Value.str z t]).toArray n)] := by
  refine ⟨l, w, _, n, toldM_put, rfl, ?_, ?_⟩
  · rw [told_take hz, toldOf, if_pos h]; exact hW.append' (.cons _ _ .nil)
  · simp only [List.length_append, List.length_cons, List.length_nil]; omega
theorem toldJ_strands {a l : Addr} {xs : List Str} {i n : Nat} {z : Str} {v w : Option Value} {ws us : List Value} (hz : xs[i]? = some z) (hW : StrsAre ws (toldQ (xs.take i))) (hwl : ws.length ≤ 201 * i) (h : safeQ z = false) (hU : StrsAre us (strandsQ z)) (hl : z.length ≤ 99) :
    toldJ a xs (i + 1) (fun y => if y = Str.ofString "word" then w else toldM a l v y) [(l, W.listOf (ws ++ us).toArray n)] := by
  refine ⟨l, w, _, n, toldM_put, rfl, ?_, ?_⟩
  · rw [told_take hz, toldOf, if_neg (by simp [h])]; exact hW.append' hU
  · have := strands_le hU
    simp only [List.length_append]; omega
local macro_rules | `(tactic| walk_at "call ref") => `(tactic| (k_here; (with_reducible show wpAny _ _ (call (Value.ref 753) [Value.str _ _]) _ _ _); k_dflt (refine wpAny_call (safe_call (by k_in) (Top.keeps (by assumption) (Fr.keep (by assumption))) (by dsimp only; omega) (by dsimp only; omega) (by omega) ?_); intro h'' tk'' b'' hb'' st''; subst hb''; (have FF := Fr.on (by assumption) st''); (have NN := News.on (by assumption) st''); (try dsimp only))))
local macro_rules | `(tactic| walk_at "call ref") => `(tactic| (k_here; (with_reducible show wpAny _ _ (call (Value.ref 765) [Value.str _ _]) _ _ _); k_dflt (refine wpAny_call (strands_call (by k_in) (Top.keeps (by assumption) (Fr.keep (by assumption))) (by dsimp only; omega) (by dsimp only; omega) (by omega) ?_); intro h'' tk'' a'' its'' n'' hg'' hS'' hf'' st''; (have FF := Fr.on (by assumption) st''); (have hne'' := News.fresh_ne (by assumption) hf''); (try simp only [NeAll, and_true] at hne''); (have hnn'' := strands_ne hS''); (have hll'' := strands_le hS''); (have NN := News.add (by assumption) (by assumption) st'' hg'' hf''); (try dsimp only))))
local macro_rules | `(tactic| walk_at "call builtin:list.extend") => `(tactic| (k_here; k_dflt (refine' extend_L ?F ?N ?b ?ne ?U ?Z ?_; (case F => k_asm); (case N => k_asm); (case b => k_mem); (case U => k_upd); (case ne => (first | exact List.cons_ne_nil _ _ | assumption)); (case Z => ((try simp only [List.length_append, List.length_cons, List.length_nil]); omega))); intro h' F' N'; (try k_sweep)))
theorem told_call {w : World} {mean : ExcName → Option Value} {mg mb : Str → Option Value} {d u : Nat} {outer : List Env} {gg : Option (List Code)} {s : Shared} {R : Result → Shared → Prop} {a : Addr} {vs : List Value} {xs : List Str}
   (X : (hd.heap_39 w.params).In s.heap) (T : Top vw loo mean mg mb s.heap) (hd' : d ≤ 480) (hu : u ≤ 300)
   (hl : s.heap.IsList a vs.toArray) (hS : StrsAre vs xs) (hn : xs.length ≤ 100) (hx : ∀ x ∈ xs, x.length ≤ 99)
   (hR : ∀ h' tk a (ws : List Value) n, h'.get? a = some (W.listOf ws.toArray n) → StrsAre ws (toldQ xs) → s.heap.get? a = none → s.heap.StaysIn h' → R (.ok (.ret (.ref a))) ⟨h', s.gens, s.drawn, tk, s.os⟩) :
   codeAny (model pg w) (Ar none d outer gg u) (.call (.ref 772) ⟨[.ref a],[]⟩) R s := by
  w_on
  w_strict (
    (refine' enter1 (by assumption) (Top.nolimit (by assumption)) ?k6 ?k7 ?k8 ?k9 ?kB ?_ ?c2 ?c3 ?c4 ?c5; (case k6 => k_is); (case k7 => k_is); (case k8 => (simp only [recursionLimit]; omega)); (case k9 => exact rfl); (case c5 => decide); (case kB => exact rfl); (case c2 => exact rfl); (case c3 => exact rfl); (case c4 => exact rfl); (try dsimp only [f46, f60, f87, f364, f371, f378, f540, f653, f660, f690, f697, f719, f726, f741, f748, f753, f758, f765, f772, f779, f784, f789, f794]))
    intro h' F N
    k_fold
    (repeat' (first | (k_unfold; (try dsimp only)) | ((fail_if_success (with_reducible show wpAny _ _ (exec (Stmt.For _ _ _ _ _) _) _ _ _)); first | walk1 | (dsimp only; walk1)) | fail "no step"))
    refine' For_strs (toldJ a) (by assumption) (by assumption) rfl hl hS rfl ?j0 ?turn ?done rfl rfl rfl (by decide) (by first | passes_own | with_unfolding_all passes_own)
    case j0 => exact ⟨_, none, [], _, toldM_eq, rfl, .nil, Nat.le_refl _⟩
    case turn =>
      rintro I oI i z u' m₁ news₁ h tk hz ⟨l, v, ws, n, rfl, rfl, hW, hwl⟩ hlt hne F1 N1
      have hlI : @Ne Nat l I := hne _ (.head _)
      have hz1 : z.length ≤ 99 := hx _ (List.mem_of_getElem? hz)
      have hi : i < xs.length := (List.getElem?_eq_some_iff.mp hz).1
      have hws : ws.length ≤ 30000 := by omega
      dsimp only [List.cons_append, List.nil_append] at N1
      k_steps
      · exact TurnEnd.mk' (news₂ := [(l, _)]) (by assumption) (by assumption) (fun _ h => .tail _ h) (fun p hp q hq => by rw [List.mem_singleton.mp hp, List.mem_singleton.mp hq]; exact hlI) (toldJ_safe hz hW hwl (by assumption))
      · exact TurnEnd.mk' (news₂ := [(l, _)]) (by assumption) (by assumption) (fun _ h => .tail _ h) (fun p hp q hq => by rw [List.mem_singleton.mp hp, List.mem_singleton.mp hq]; exact hlI) (toldJ_strands hz hW hwl (by assumption) (by assumption) hz1)
    case done =>
      rintro h2 tk2 m2 news2 F2 N2 ⟨l, v, ws, n, rfl, rfl, hW, hwl⟩
      k_steps
      refine hR _ _ _ _ _ (News.get (by assumption) (by k_mem)) ?_ (News.fresh (by assumption) (by k_mem)) (Fr.keep (by assumption))
      rw [List.take_length] at hW
      simpa using hW)
end Mine

/-! part C5 -/
namespace Mine

local macro_rules | `(tactic| walk_at "subscriptTail") => `(tactic| (k_here; (with_reducible show wpAny _ _ (subscriptTail _ _ (Value.ref _) (Value.int (-1) _)) _ _ _); k_dflt (refine get_last (News.isList (by assumption) (by k_mem)) ?_)))
local macro_rules | `(tactic| walk_at "setItem ref int") => `(tactic| (k_here; (with_reducible show wpAny _ _ (setItem (Value.ref _) (Value.int (-1) _) _) _ _ _); k_dflt (refine' set_last ?F ?N ?U ?_; (case F => k_asm); (case N => k_asm); (case U => k_upd)); intro h' F' N'; (try k_sweep)))
local macro_rules | `(tactic| walk_at "call builtin:list.append") => `(tactic| (k_here; k_dflt (refine' append_L ?F ?N ?U ?Z ?_; (case F => k_asm); (case N => k_asm); (case U => k_upd); (case Z => ((try simp only [List.length_append, List.length_cons, List.length_nil]); omega))); intro h' F' N'; (try k_sweep)))
local macro_rules | `(tactic| walk_at "compareOp Eq ref ref") => `(tactic| (k_here; k_dflt (first | refine eq_nilF (News.isList (by assumption) (by k_mem)) (News.isList (by assumption) (by k_mem)) rfl (by units_room) ?_ | refine eq_nilT (News.isList (by assumption) (by k_mem)) (News.isList (by assumption) (by k_mem)) rfl rfl (by units_room) ?_)))
def signTab (z : Int) : List Str := [Str.ofString "'", Str.ofString "'", Str.ofString "\"", Str.ofString " ", Str.ofString "a", Txt.item (Str.ofString "Z=/@") ((z.fdiv 8).fmod 4), Txt.item (Str.ofString "\\#;$~\n\té") ((z.fdiv 8).fmod 8)]
def signOf (z : Int) : Str := (signTab z).getD (z.fmod 8 - 1).toNat Str.empty
def wordsStep (ws : List Str) (z : Int) : List Str :=
  if z.fmod 8 = 0 then ws ++ [Str.ofString ""] else if ws = [] then [Str.ofString "" ++ signOf z] else ws.dropLast ++ [ws.getLastD Str.empty ++ signOf z]
theorem item4 (k : Int) (h0 : 0 ≤ k) (h1 : k < 4) : (Txt.item (Str.ofString "Z=/@") k).length = 1 := by
  rcases (by omega : k = 0 ∨ k = 1 ∨ k = 2 ∨ k = 3) with rfl | rfl | rfl | rfl <;> decide +kernel
theorem item8 (k : Int) (h0 : 0 ≤ k) (h1 : k < 8) : (Txt.item (Str.ofString "\\#;$~\n\té") k).length = 1 := by
  rcases (by omega : k = 0 ∨ k = 1 ∨ k = 2 ∨ k = 3 ∨ k = 4 ∨ k = 5 ∨ k = 6 ∨ k = 7) with rfl | rfl | rfl | rfl | rfl | rfl | rfl | rfl <;> decide +kernel
theorem fm (z : Int) (n : Int) (hn : 0 < n) : 0 ≤ z.fmod n ∧ z.fmod n < n := ⟨Int.fmod_nonneg_of_pos _ hn, Int.fmod_lt_of_pos _ hn⟩
theorem sign_len (z : Int) (h : z.fmod 8 ≠ 0) : (signOf z).length = 1 := by
  have h8 := fm z 8 (by decide)
  have h4' := fm (z.fdiv 8) 4 (by decide)
  have h8' := fm (z.fdiv 8) 8 (by decide)
  have i4 := item4 _ h4'.1 h4'.2
  have i8 := item8 _ h8'.1 h8'.2
  unfold signOf signTab
  rcases (by omega : z.fmod 8 = 1 ∨ z.fmod 8 = 2 ∨ z.fmod 8 = 3 ∨ z.fmod 8 = 4 ∨ z.fmod 8 = 5 ∨ z.fmod 8 = 6 ∨ z.fmod 8 = 7) with e | e | e | e | e | e | e <;> rw [e]
  · exact (by decide +kernel : (Str.ofString "'").length = 1)
  · exact (by decide +kernel : (Str.ofString "'").length = 1)
  · exact (by decide +kernel : (Str.ofString "\"").length = 1)
  · exact (by decide +kernel : (Str.ofString " ").length = 1)
  · exact (by decide +kernel : (Str.ofString "a").length = 1)
  · exact i4
  · exact i8
section
variable {prog : Program} {w : World} {A : Around} {E : Value → Shared → Prop} {s : Shared}
theorem item_signs {value slice : Expr} {l : Addr} {z : Int} {u t1 t2 t3 t4 t5 t6 t7 : Tok} {Q : Value → Shared → Prop} (hl : s.heap.IsList l #[.str (Str.ofString "'") t1, .str (Str.ofString "'") t2, .str (Str.ofString "\"") t3, .str (Str.ofString " ") t4, .str (Str.ofString "a") t5, .str (Txt.item (Str.ofString "Z=/@") ((z.fdiv 8).fmod 4)) t6, .str (Txt.item (Str.ofString "\\#;$~\n\té") ((z.fdiv 8).fmod 8)) t7])
    (h0 : z.fmod 8 ≠ 0) (h : ∀ t, (signOf z).length ≤ 1 → Q (.str (signOf z) t) s)
    (hs : subscripted slice false (.ref l) (.int (z.fmod 8 - 1) u) = operate [.ref l, .int (z.fmod 8 - 1) u] (getItem (.ref l) (.int (z.fmod 8 - 1) u)) := by with_unfolding_all rfl) :
    wpAny (model prog w) A (subscriptTail value slice (.ref l) (.int (z.fmod 8 - 1) u)) Q E s := by
  have h8 := fm z 8 (by decide)
  have hk : z.fmod 8 - 1 < (signTab z).length := by
    show _ < (7 : Int)
    omega
  exact item_strsR hl (ys := signTab z) (by repeat constructor) (by omega) hk (by omega) (fun t => h t (Nat.le_of_eq (sign_len z h0))) hs
end
local macro_rules | `(tactic| walk_at "subscriptTail Name BinOp ref int") => `(tactic| (k_here; k_dflt (refine item_signs (News.isList (by assumption) (by k_mem)) (by omega) ?_); intro t' hsl'))
abbrev wordsM (a l : Addr) (v v2 : Option Value) : Str → Option Value := fun z => if z = Str.ofString "signs" then v2 else if z = Str.ofString "x" then v else if z = Str.ofString "words" then some (.ref l) else [(Str.ofString "script", Value.ref a)].lookup z
def wordsJ (a : Addr) (ns : List Int) (i : Nat) (m : Str → Option Value) (news : List (Addr × Obj)) : Prop :=
  ∃ l v v2 vs n, m = wordsM a l v v2 ∧ news = [(l, W.listOf vs.toArray n)] ∧ vs.length ≤ i ∧ StrsAre vs ((ns.take i).foldl wordsStep []) ∧ ∀ y ∈ (ns.take i).foldl wordsStep [], y.length ≤ i
theorem wordsM_eq {a l : Addr} : (fun y => if y = Str.ofString "words" then some (Value.ref l) else List.lookup y [(Str.ofString "script", Value.ref a)]) = wordsM a l none none := by
  funext y
  unfold wordsM
  by_cases h : y = Str.ofString "signs"
  · subst h
    rw [if_pos rfl, if_neg (by decide +kernel)]
    rfl
  · rw [if_neg h]
    by_cases h : y = Str.ofString "x"
    · subst h
      rw [if_pos rfl, if_neg (by decide +kernel)]
      rfl
    · rw [if_neg h]
theorem nil_or_snoc {α : Type} (l : List α) : l = [] ∨ ∃ p x, l = p ++ [x] := by
  rcases List.eq_nil_or_concat l with h | ⟨p, x, h⟩
  · exact .inl h
  · exact .inr ⟨p, x, by rw [h, List.concat_eq_append]⟩
theorem strsAre_snocV {pre : List Value} {v : Value} {row : List Str} (h : StrsAre (pre ++ [v]) row) : ∃ y ty r, v = .str y ty ∧ row = r ++ [y] ∧ StrsAre pre r := by
  induction pre generalizing row with
  | nil => cases h with | cons y t h => cases h; exact ⟨y, t, [], rfl, rfl, .nil⟩
  | cons v r ih =>
    cases h with
    | cons z t h =>
      obtain ⟨y, ty, r', e, rfl, h'⟩ := ih h
      exact ⟨y, ty, z :: r', e, rfl, .cons _ _ h'⟩
theorem wordsM_put1 {a l : Addr} {v v2 w : Option Value} : (fun y => if y = Str.ofString "x" then w else wordsM a l v v2 y) = wordsM a l w v2 := by
  funext y
  unfold wordsM
  by_cases h1 : y = Str.ofString "x"
  · subst h1
    rw [if_pos rfl, if_neg (by decide +kernel), if_pos rfl]
  · rw [if_neg h1]
    by_cases h2 : y = Str.ofString "signs"
    · rw [if_pos h2, if_pos h2]
    · rw [if_neg h2, if_neg h2, if_neg h1, if_neg h1]
theorem wordsM_put2 {a l : Addr} {v v2 w w2 : Option Value} : (fun y => if y = Str.ofString "signs" then w2 else if y = Str.ofString "x" then w else wordsM a l v v2 y) = wordsM a l w w2 := by
  have := wordsM_put1 (a := a) (l := l) (v := v) (v2 := v2) (w := w)
  funext y
  by_cases h : y = Str.ofString "signs"
  · rw [if_pos h]; unfold wordsM; rw [if_pos h]
  · rw [if_neg h, congrFun this y]; unfold wordsM; rw [if_neg h, if_neg h]
theorem sub3 {α : Type} {p q r : α} {all : List α} (h1 : p ∈ all) (h2 : q ∈ all) (h3 : r ∈ all) : ∀ x ∈ [p] ++ [q, r], x ∈ all := by
  intro x hx
  rcases List.mem_cons.mp hx with rfl | hx
  · exact h1
  · rcases List.mem_cons.mp hx with rfl | hx
    · exact h2
    · rw [List.mem_singleton.mp hx]; exact h3
theorem apart3 {l I D : Addr} {o oI oD : Obj} (h1 : l ≠ I) (h2 : l ≠ D) : ∀ p ∈ [(l, o)], ∀ q ∈ [(I, oI), (D, oD)], p.1 ≠ q.1 := by
  intro p hp q hq
  rw [List.mem_singleton.mp hp]
  rcases List.mem_cons.mp hq with rfl | hq
  · exact h1
  · rw [List.mem_singleton.mp hq]; exact h2
theorem words_take {ns : List Int} {i : Nat} {z : Int} (hz : ns[i]? = some z) : (ns.take (i + 1)).foldl wordsStep [] = wordsStep ((ns.take i).foldl wordsStep []) z := by
  rw [List.take_add_one, hz]; simp
theorem wordsStep_len {ws : List Str} {z : Int} {i : Nat} (h : ∀ y ∈ ws, y.length ≤ i) : ∀ y ∈ wordsStep ws z, y.length ≤ i + 1 := by
  intro y hy
  unfold wordsStep at hy
  have e0 : (Str.ofString "").length = 0 := by decide +kernel
  split at hy
  · rcases List.mem_append.mp hy with hy | hy
    · have := h y hy; omega
    · rw [List.mem_singleton.mp hy]; omega
  · rename_i hz
    have hs := sign_len z hz
    split at hy
    · rw [List.mem_singleton.mp hy, Str.length_append]; omega
    · rename_i hw
      rcases List.mem_append.mp hy with hy | hy
      · have := h y (List.dropLast_subset _ hy); omega
      · rw [List.mem_singleton.mp hy, Str.length_append]
        have : (ws.getLastD Str.empty).length ≤ i := h _ (by rw [List.getLastD_eq_getLast?, List.getLast?_eq_some_getLast hw]; exact List.getLast_mem hw)
        omega
section
variable {a l : Addr} {ns : List Int} {i n : Nat} {z : Int} {t ty : Tok} {v v2 : Option Value} {pre : List Value} {y : Str} {r : List Str} {m₂ : Str → Option Value}
theorem wordsJ_new {ws : List Value} (hm : ∃ v v2, m₂ = wordsM a l v v2) (hz : ns[i]? = some z) (hS : StrsAre ws ((ns.take i).foldl wordsStep [])) (hl : ws.length ≤ i) (hyl : ∀ y ∈ (ns.take i).foldl wordsStep [], y.length ≤ i) (h0 : z.fmod 8 = 0) :
    wordsJ a ns (i + 1) m₂ [(l, W.listOf (ws ++ [Value.str (Str.ofString "") t]).toArray n)] := by
  obtain ⟨v, v2, rfl⟩ := hm
  refine ⟨l, v, v2, _, n, rfl, rfl, ?_, ?_, ?_⟩
  · simp only [List.length_append, List.length_cons, List.length_nil]; omega
  · rw [words_take hz, wordsStep, if_pos h0]; exact hS.append' (.cons _ _ .nil)
  · rw [words_take hz]; exact wordsStep_len hyl
theorem wordsJ_first (hm : ∃ v v2, m₂ = wordsM a l v v2) (hz : ns[i]? = some z) (hS : StrsAre [] ((ns.take i).foldl wordsStep [])) (hyl : ∀ y ∈ (ns.take i).foldl wordsStep [], y.length ≤ i) (h0 : z.fmod 8 ≠ 0) :
    wordsJ a ns (i + 1) m₂ [(l, W.listOf ([] ++ [Value.str (Str.ofString "" ++ signOf z) t]).toArray n)] := by
  obtain ⟨v, v2, rfl⟩ := hm
  refine ⟨l, v, v2, _, n, rfl, rfl, ?_, ?_, ?_⟩
  · simp only [List.length_append, List.length_cons, List.length_nil]; omega
  · rw [words_take hz]
    have e : (ns.take i).foldl wordsStep [] = [] := by have := hS.length; simpa using this.symm
    rw [e, wordsStep, if_neg h0, if_pos rfl]; exact .cons _ _ .nil
  · rw [words_take hz]; exact wordsStep_len hyl
theorem wordsJ_more (hm : ∃ v v2, m₂ = wordsM a l v v2) (hz : ns[i]? = some z) (hr : (ns.take i).foldl wordsStep [] = r ++ [y]) (hS : StrsAre pre r) (hl : (pre ++ [Value.str y ty]).length ≤ i) (hyl : ∀ y ∈ (ns.take i).foldl wordsStep [], y.length ≤ i) (h0 : z.fmod 8 ≠ 0) :
    wordsJ a ns (i + 1) m₂ [(l, W.listOf (pre ++ [Value.str (y ++ signOf z) t]).toArray n)] := by
  obtain ⟨v, v2, rfl⟩ := hm
  refine ⟨l, v, v2, _, n, rfl, rfl, ?_, ?_, ?_⟩
  · simp only [List.length_append, List.length_cons, List.length_nil] at *; omega
  · rw [words_take hz, hr, wordsStep, if_neg h0, if_neg (by simp), List.dropLast_concat, List.getLastD_concat]; exact hS.append' (.cons _ _ .nil)
  · rw [words_take hz]; exact wordsStep_len hyl
end
local macro_rules | `(tactic| walk_at "execs cons") => `(tactic| (exfalso; omega))
theorem words_call {w : World} {mean : ExcName → Option Value} {mg mb : Str → Option Value} {d u : Nat} {outer : List Env} {gg : Option (List Code)} {s : Shared} {R : Result → Shared → Prop} {a : Addr} {vs : List Value} {ns : List Int}
   (X : (hd.heap_39 w.params).In s.heap) (T : Top vw loo mean mg mb s.heap) (hd' : d ≤ 480) (hu : u ≤ 300)
   (hl : s.heap.IsList a vs.toArray) (hI : IntsAre vs ns) (hn : ns.length ≤ 63)
   (hR : ∀ h' tk a (ws : List Value) n, h'.get? a = some (W.listOf ws.toArray n) → StrsAre ws ((ns.take 10).foldl wordsStep []) → s.heap.get? a = none → s.heap.StaysIn h' → R (.ok (.ret (.ref a))) ⟨h', s.gens, s.drawn, tk, s.os⟩) :
   codeAny (model pg w) (Ar none d outer gg u) (.call (.ref 748) ⟨[.ref a],[]⟩) R s := by
  w_on
  w_strict (
    (refine' enter1 (by assumption) (Top.nolimit (by assumption)) ?k6 ?k7 ?k8 ?k9 ?kB ?_ ?c2 ?c3 ?c4 ?c5; (case k6 => k_is); (case k7 => k_is); (case k8 => (simp only [recursionLimit]; omega)); (case k9 => exact rfl); (case c5 => decide); (case kB => exact rfl); (case c2 => exact rfl); (case c3 => exact rfl); (case c4 => exact rfl); (try dsimp only [f46, f60, f87, f364, f371, f378, f540, f653, f660, f690, f697, f719, f726, f741, f748, f753, f758, f765, f772, f779, f784, f789, f794]))
    intro h' F N
    k_fold
    (repeat' (first | (k_unfold; (try dsimp only)) | ((fail_if_success (with_reducible show wpAny _ _ (exec (Stmt.For _ _ _ _ _) _) _ _ _)); first | walk1 | (dsimp only; walk1)) | fail "no step"))
    refine For_invV s.heap rfl rfl ?_ (by intro _; rfl) (by first | passes_own | with_unfolding_all passes_own)
    (repeat' (first | (k_unfold; (try dsimp only)) | ((fail_if_success (with_reducible show wpAny _ _ (pyIter _) _ _ _)); first | walk1 | (dsimp only; walk1)) | fail "no step"))
    refine' iter_made (wordsJ a) (by assumption) (by assumption) (by assumption) ?hD rfl ?j0 ?turn ?done
    case hD => (intro p hp; rw [List.mem_singleton.mp hp]; exact Nat.ne_of_lt (by assumption))
    case j0 => exact ⟨_, none, none, [], 0, wordsM_eq, rfl, Nat.le_refl _, .nil, fun _ h => nomatch h⟩
    case turn =>
      rintro I oI oD i z u' m₁ news₁ h tk hz ⟨l, v, v2, ws, n, rfl, rfl, hwl, hS, hyl⟩ hne hDI F1 N1
      have hlI : @Ne Nat l I := (hne _ (.head _)).1
      rename_i D _ _ _ _ _ _ _ _
      have hlD : @Ne Nat l D := (hne _ (.head _)).2
      have hi : i < 10 := by
        have := (List.getElem?_eq_some_iff.mp hz).1
        rw [List.length_take] at this
        omega
      have h8 : 0 ≤ z.fmod 8 ∧ z.fmod 8 < 8 := ⟨Int.fmod_nonneg_of_pos _ (by decide), Int.fmod_lt_of_pos _ (by decide)⟩
      dsimp only [List.cons_append, List.nil_append] at N1
      rcases nil_or_snoc ws with rfl | ⟨pre, w0, rfl⟩
      · by_cases hz0 : z.fmod 8 = 0
        all_goals k_steps
        all_goals (try (exfalso; omega))
        · (exact TurnEnd.mk' (news₂ := [(l, _)]) (by assumption) (by assumption) (sub3 (by k_mem) (by k_mem) (by k_mem)) (apart3 hlI hlD) (wordsJ_new (ws := []) (by first | exact ⟨_, _, wordsM_put1⟩ | exact ⟨_, _, wordsM_put2⟩) hz hS hwl hyl hz0))
        · (exact TurnEnd.mk' (news₂ := [(l, _)]) (by assumption) (by assumption) (sub3 (by k_mem) (by k_mem) (by k_mem)) (apart3 hlI hlD) (wordsJ_first (by first | exact ⟨_, _, wordsM_put1⟩ | exact ⟨_, _, wordsM_put2⟩) hz hS hyl hz0))
      · obtain ⟨y, ty, r, rfl, hr, hS'⟩ := strsAre_snocV hS
        have hy : y.length ≤ 10 := by
          have := hyl y (by rw [hr]; simp)
          omega
        have hwl2 : pre.length ≤ 10 := by rw [List.length_append] at hwl; simp at hwl; omega
        by_cases hz0 : z.fmod 8 = 0
        all_goals k_steps
        all_goals (try (exfalso; omega))
        · (exact TurnEnd.mk' (news₂ := [(l, _)]) (by assumption) (by assumption) (sub3 (by k_mem) (by k_mem) (by k_mem)) (apart3 hlI hlD) (wordsJ_new (ws := pre ++ [Value.str y ty]) (by first | exact ⟨_, _, wordsM_put1⟩ | exact ⟨_, _, wordsM_put2⟩) hz hS hwl hyl hz0))
        · (exact TurnEnd.mk' (news₂ := [(l, _)]) (by assumption) (by assumption) (sub3 (by k_mem) (by k_mem) (by k_mem)) (apart3 hlI hlD) (wordsJ_more (ty := ty) (by first | exact ⟨_, _, wordsM_put1⟩ | exact ⟨_, _, wordsM_put2⟩) hz hr hS' hwl hyl hz0))
    case done =>
      rintro h2 tk2 m2 news2 F2 N2 ⟨l, v, v2, ws, n, rfl, rfl, hwl, hS, hyl⟩
      k_steps
      refine hR _ _ _ _ _ (News.get (by assumption) (by k_mem)) ?_ (News.fresh (by assumption) (by k_mem)) (Fr.keep (by assumption))
      rw [List.take_length] at hS
      exact hS)
end Mine

/-! part B4 -/
namespace Mine
section
variable {w : World} {d u : Nat} {outer : List Env} {gg : Option (List Code)} {s : Shared} {K : Frag}
    {R : Result → Shared → Prop} {name qual : Str} {params : Arguments} {body : List Stmt} {scope : Scope} {dV kV doc pm cdv ct oc : Value} {an od : Option Addr} {osl : Array (Option Value)} {f : Addr} {args : Args} {binds : List (Str × Value)}
/-- a def with cells: the caller's heap is the ground -/
theorem enterC (X : K.In s.heap) (hlim : s.heap.NoLimit)
    (ho : K.lookup f = some ⟨oc, od, .func (fnOf name qual params body scope dV kV doc pm an cdv ct), osl⟩) (hcd : codeIn K cdv qual = true) (hroom : d < recursionLimit)
    (hbind : BindsTo s (fnOf name qual params body scope dV kV doc pm an cdv ct) args binds)
    (hkind : (binds.all fun y => scope.names.lookup y.1 == some .local || scope.names.lookup y.1 == some .cell) = true)
    (hnd : ((cellsFrom 0 scope.names []).map (·.1)).Nodup)
    (h : ∀ h₁ tk cells, Fr s.heap s.heap.objs.size h₁ (bindL (envOfC qual scope s.heap.objs.size f cdv).kindOf binds fun _ => none) → News s.heap s.heap.objs.size h₁ cells →
      CellsAre (bindC (envOfC qual scope s.heap.objs.size f cdv).kindOf binds fun _ => none) (cellsFrom (s.heap.objs.size + 1) scope.names []) cells →
      wpAny (model pg w) ((Ar none d outer gg u).deeper (envOfC qual scope s.heap.objs.size f cdv)) (execs body (envOfC qual scope s.heap.objs.size f cdv))
        (fun fl s' => R (.ok (.ret (match fl with | .ret v => v | _ => .none))) s')
        (fun e s' => wpAny (model pg w) ((Ar none d outer gg u).deeper (envOfC qual scope s.heap.objs.size f cdv)) (leaving (envOfC qual scope s.heap.objs.size f cdv) e) (fun _ s'' => R (.error e) s'') (fun e' s'' => R (.error e') s'') s')
        { s with heap := h₁, toks := tk })
    (hco : scope.isCoroutine = false) (hgen : scope.isGenerator = false) (hk : scope.kind = .function) : codeAny (model pg w) (Ar none d outer gg u) (.call (.ref f) args) R s := by
  refine codeAny_call_function hroom (X _ _ ho) rfl hco hgen rfl (codeRec_of X hcd) (hbind _ _ _ _ ?_)
  refine wpAny_newFunctionEnv_cells hk (kindsX hkind _) fun env' he s' x => ?_
  subst he
  refine ⟨hlim.keeps x.toInCall.keep, codeAny_func ?_⟩
  obtain ⟨h₁, tk, rfl, _⟩ := x.done
  have hk₁ := x.toInCall.keep
  obtain ⟨cells, NC, Y⟩ := Cl.news (h₀ := s.heap) (Nat.le_refl _) fun n c hm => ⟨x.cell n c (lookup_of_mem_nodup (cellsFrom_names scope.names 0 (s.heap.objs.size + 1) [] [] rfl ▸ hnd) hm), x.above n c hm⟩
  exact h h₁ tk cells ⟨x.toInCall.ns, hk₁, Nat.le_refl _⟩ NC Y
end
def RowOut (g : List Str) (s₂ : Shared) (y : Value) (s₃ : Shared) : Prop := (∃ T its, y = .ref T ∧ s₂.heap.get? T = none ∧ s₃.heap.IsList T its ∧ StrsAre its.toList g) ∧ Keeps s₂ s₃
theorem RowOut.mk' {g : List Str} {s₂ : Shared} {h' : Heap} {tk : Nat} {T : Addr} {ws : List Value} (hf : s₂.heap.get? T = none) (hl : h'.IsList T ws.toArray) (hS : StrsAre ws g) (k : s₂.heap.StaysIn h') : RowOut g s₂ (.ref T) ⟨h', s₂.gens, s₂.drawn, tk, s₂.os⟩ :=
  ⟨⟨T, _, rfl, hf, hl, by simpa using hS⟩, h', tk, rfl, k⟩
theorem strs_reads {h : Heap} : ∀ {vs : List Value} {xs : List Str}, StrsAre vs xs → ReadsAll h vs (xs.map PyData.str) []
  | _, _, .nil => .nil
  | _, _, .cons y t r => .cons (as := []) (bs := []) (.str y t) (strs_reads r)
/-- rows of texts as data -/
abbrev rowsD (rows : List (List Str)) : PyData := .list (rows.map fun r => .list (r.map PyData.str))
section
variable {prog : Program} {w : World} {A : Around} {E : Value → Shared → Prop} {s : Shared} {env : Env}
/-- a comprehension over a list of texts whose elements are new lists of texts -/
theorem comp_rows {elt : Expr} {x y : Str} {px py : Pos} {cs : Scope} {cl : List (Str × Addr)} {pos : Pos} {Q : Value → Shared → Prop} {ax : Addr} {vs : List Value} {xs : List Str} (g : Str → List Str) (B : Nat)
    (hh : A.handled = none) (hy : ∀ (Q' : Value → Shared → Prop), Q' (.ref ax) s → wpAny (model prog w) A (eval (.Name y py) env) Q' E s) (hl : s.heap.IsList ax vs.toArray) (hS : StrsAre vs xs) (hB : ∀ b ∈ xs, b.length ≤ B) (hsz : xs.length ≤ sizeLine)
    (hclos : closureFor cs env = pure cl) (hcell : ∀ y ∈ cs.names, y.2 ≠ .cell) (hkind : cs.kind = .function)
    (hnames : ∀ y ∈ cs.names, y.2 = .local → cs.names.lookup y.1 = some .local) (hx : cs.names.lookup x = some .local)
    (helt : ∀ C b t s₂ m₂ E', b.length ≤ B → s₂.heap.Ns (compEnvC cs cl C env).locals m₂ → m₂ x = some (.str b t) → s.heap.StaysIn s₂.heap →
      wpAny (model prog w) A (eval elt (compEnvC cs cl C env)) (RowOut (g b) s₂) E' s₂)
    (hQ : ∀ D h' tk n (its : Array Value) as, s.heap.get? D = none → h'.get? D = some (W.listOf its n) → s.heap.StaysIn h' → Reads h' (.ref D) (rowsD (xs.map g)) as → Q (.ref D) { s with heap := h', toks := tk })
    (hs : ∀ x, foldedSetIterable (.Name y py) env x = pure x := by intro _; rfl) :
    wpAny (model prog w) A (eval (.ListComp elt [⟨.Name x px, .Name y py, [], 0⟩] cs pos) env) Q E s := by
  refine wpAny_ListComp_freeO (cl := cl) (fun _ => true) (fun v its => ∃ b t, v = .str b t ∧ StrsAre its.toList (g b)) hclos hcell hkind hnames hx ?_ hs
  refine hy _ ?_
  have hlt : ax < s.heap.objs.size := by obtain ⟨_, e, _⟩ := hl; exact Heap.lt_size e
  refine wpAny_pyIter_list hl ?_
  have hlen := hS.length
  refine ⟨s.heap.objs.size, [s.heap.objs.size, ax], [s.heap.objs.size], vs.toArray.size, _, _, rfl, Walks.list hh _ _ (Nat.ne_of_lt hlt) vs.toArray, (by rw [List.size_toArray, hlen]; exact hsz), ?_, ⟨⟨_, Heap.get?_push_size _ rfl, rfl, rfl⟩, hl.push _⟩, ?_, ⟨?_, ?_⟩, ?_⟩
  · intro i h st b hb
    rw [List.mem_singleton.mp hb]
    obtain ⟨⟨o, ho, _⟩, _⟩ := st
    exact ⟨o, ho⟩
  · intro b hb
    show b < (s.heap.push _).objs.size
    rw [Heap.size_push]
    rcases List.mem_cons.mp hb with rfl | hb
    · exact Nat.lt_succ_self _
    · rw [List.mem_singleton.mp hb]; exact Nat.lt_succ_of_lt hlt
  · intro C i v s₃ m₃ E' _ hP hn hm hk' _
    exact wpAny_pure ⟨rfl, s₃.heap, s₃.toks, rfl, fun _ _ e => e⟩
  · intro C i v s₃ m₃ E' _ hP hp hn hm hk' _
    obtain ⟨b, t, rfl, hb⟩ := hS.item i v (by simpa using hP)
    have st : s.heap.StaysIn s₃.heap := fun q o e => hk' q o (fun hm => by rw [List.mem_singleton.mp hm] at e; exact Nat.lt_irrefl _ (Heap.lt_size e)) (Heap.get?_push_of_some _ e)
    refine wpAny_mono (helt C b t s₃ m₃ E' (hB _ (List.mem_of_getElem? hb)) hn hm st) (fun z s₄ hz => ?_) fun _ _ e => e
    obtain ⟨⟨T, its, rfl, hf, hT, hG⟩, hK⟩ := hz
    exact ⟨⟨T, its, rfl, hf, hT, b, t, rfl, hG⟩, hK⟩
  · intro D h' tk ys vs' hnew hlD hplD hlen' hP hF _ _ hk'
    have e : vs' = vs := by simpa using list_of_places hlen' hP
    subst e
    have up : s.heap.StaysIn h' := fun q o e => hk' q o (fun hm => by rw [List.mem_singleton.mp hm] at e; exact Nat.lt_irrefl _ (Heap.lt_size e)) (Heap.get?_push_of_some _ e)
    obtain ⟨n, hpl⟩ := hplD
    have hD : s.heap.get? D = none := by
      cases q : s.heap.get? D with
      | none => rfl
      | some o => rw [Heap.get?_push_of_some _ q] at hnew; cases hnew
    have hR : ∃ as, ReadsAll h' ys.toList ((xs.map g).map fun r => PyData.list (r.map PyData.str)) as := by
      clear hQ hlD hpl hnew hk' hlen' hP hl helt hlen hy hsz hB
      rw [filter_yes] at hF
      generalize ys.toList = zs at hF
      induction hS generalizing zs with
      | nil => cases hF; exact ⟨[], .nil⟩
      | cons b t hS' ih =>
        cases hF with
        | cons hz hF =>
          obtain ⟨T, its, rfl, _, ⟨o, ho, hc, k, hd⟩, b', t', e1, hG⟩ := hz
          cases e1
          obtain ⟨as, hA⟩ := ih _ hF
          exact ⟨_, .cons (.list ho hc hd (strs_reads hG)) hA⟩
    obtain ⟨as, hA⟩ := hR
    exact hQ D h' tk n ys _ hD hpl up (.list hpl rfl rfl hA)
theorem in_strs {l : Addr} {vs : List Value} {ms : List Str} {x : Str} {t : Tok} {Q : Value → Shared → Prop} (hl : s.heap.IsList l vs.toArray) (hS : StrsAre vs ms) (h : Q (.bool (ms.contains x)) s) :
    wpAny (model prog w) A (compareOp .In (.str x t) (.ref l)) Q E s := by
  refine SeqAt.in_listAt (fun y => match y with | .str b _ => b == x | _ => false) hl (fun y hy => ?_) ?_
  · obtain ⟨b, u, rfl⟩ := hS.all y (by simpa using hy)
    exact (eqGives_str b x u t).at _ _
  · have e : (vs.toArray.any fun y => match y with | .str b _ => b == x | _ => false) = ms.contains x := by
      rw [List.any_toArray]
      clear hl h
      induction hS with
      | nil => rfl
      | cons b u hS ih =>
        rw [List.any_cons, ih, List.contains_cons]
        congr 1
        exact Bool.beq_comm ..
    rw [e]; exact h
end

theorem none_back {h h' : Heap} {a : Addr} (k : h.StaysIn h') (e : h'.get? a = none) : h.get? a = none := by
  cases q : h.get? a with
  | none => rfl
  | some o => rw [k _ _ q] at e; cases e
theorem none_size (h : Heap) : h.get? h.objs.size = none := by
  cases q : h.get? h.objs.size with
  | none => rfl
  | some o => exact absurd (Heap.lt_size q) (Nat.lt_irrefl _)
theorem push_stays (h : Heap) (o : Obj) : h.StaysIn (h.push o) := fun _ _ e => Heap.get?_push_of_some _ e
section
variable {prog : Program} {w : World} {A : Around} {E : Value → Shared → Prop} {s : Shared} {h₀ : Heap} {L : Addr} {m : Str → Option Value} {news : List (Addr × Obj)}
theorem newList_S {vs : List Value} {Q : Value → Shared → Prop} (F : Fr h₀ L s.heap m) (N : News h₀ L s.heap news)
    (h : ∀ l h', s.heap.StaysIn h' → s.heap.get? l = none → h'.get? l = some (W.listOf vs.toArray 0) → Fr h₀ L h' m → News h₀ L h' ((l, W.listOf vs.toArray 0) :: news) → (∀ p ∈ news, p.1 < l) → Q (.ref l) { s with heap := h' }) (hsz : vs.length ≤ 100000) :
    wpAny (model prog w) A (newList vs) Q E s :=
  wpAny_newObj_type (h _ _ (push_stays _ _) (none_size _) (Heap.get?_push_size _ rfl) (F.push _) (N.push F _) fun p hp => Heap.lt_size (N p hp).1) (by show vs.toArray.size ≤ sizeLine; rw [List.size_toArray]; exact Nat.le_trans hsz (by decide))
theorem mul3_S {l : Addr} {v : Value} {k : Nat} {u : Tok} {Q : Value → Shared → Prop} (F' : Fr h₀ L s.heap m) (N : News h₀ L s.heap news)
    (hl : s.heap.get? l = some (W.listOf [v].toArray k))
    (h : ∀ l' h', s.heap.StaysIn h' → s.heap.get? l' = none → h'.get? l' = some (W.listOf [v, v, v].toArray 0) → Fr h₀ L h' m → News h₀ L h' ((l', W.listOf [v, v, v].toArray 0) :: news) → (∀ p ∈ news, p.1 < l') → Q (.ref l') { s with heap := h' }) :
    wpAny (model prog w) A (binaryOp .Mult (.ref l) (.int 3 u)) Q E s :=
  wpAny_binaryOp_repeat_ref (T := "list") (U := "int") (by decide) ⟨_, hl, rfl⟩ (fun s' => typeIs_int s' 3 u) noFill_list_mul PySem.F.fills_int_mul PySem.F.slot_int_rmul repeat_list PySem.F.slot_int_index.lookup
    (call_meets PySem.F.slot_int_rmul (typeIs_int s 3 u) PySem.F.entry_int_rmul (PySem.F.args_int_rmul_2 _ _) (int___rmul___int_list 3 u l [v].toArray k)
      ⟨hl, rfl, ⟨_, hl, rfl⟩, call_meets PySem.F.slot_list_mul ⟨_, hl, rfl⟩ PySem.F.entry_list_mul (PySem.F.args_list_mul_2 _ _)
        (AutoListH.list___mul___list_int_3 l [v].toArray k 3 u (by decide) (by show ¬ 1 * 3 > (2 ^ 63 - 1) / 8; decide) (by simp [Builtin.List.listTooLong, sizeLine]))
        ⟨hl, h _ _ (push_stays _ _) (none_size _) (Heap.get?_push_size _ rfl) (F'.push _) (News.push F' N _) fun p hp => Heap.lt_size (N p hp).1⟩⟩)
end
end Mine

/-! part C6 -/
namespace Mine

theorem any_contains (ms : List Str) (b : Str) : ms.contains b = ms.any fun x => x == b := by
  rw [List.contains_eq_any_beq]
  congr 1
  funext x
  exact Bool.beq_comm ..
def dueQ (xs ms : List Str) : List (List Str) := xs.map fun x => if ms.contains x = true then [x, x, x] else sidesQ x
local macro_rules | `(tactic| walk_at "newList") => `(tactic| (k_here; k_dflt (refine' newList_S ?k1 ?k2 ?_ ?z; (case k1 => k_asm); (case k2 => k_asm); (case z => exact Nat.le_of_ble_eq_true rfl); k_whole); intro l' h' st' hf' hg' F' N' l1; (try k_lt l1)))
local macro_rules | `(tactic| walk_at "binaryOp Mult ref int") => `(tactic| (k_here; k_dflt (refine' mul3_S ?k1 ?k2 ?k3 ?_; (case k1 => k_asm); (case k2 => k_asm); (case k3 => exact News.get (by assumption) (by k_mem)); k_whole); intro l' h' st' hf' hg' F' N' l1; (try k_lt l1)))
local macro_rules | `(tactic| walk_at "call ref") => `(tactic| (k_here; (with_reducible show wpAny _ _ (call (Value.ref 779) [Value.str _ _]) _ _ _); k_dflt (refine wpAny_call (sides_call (by k_in) (Top.keeps (by assumption) (Fr.keep (by assumption))) (by dsimp only; omega) (by dsimp only; omega) (by omega) ?_); intro h'' tk'' a'' ws'' hg'' hS'' hf'' st''; (try dsimp only))))
theorem due_call {w : World} {mean : ExcName → Option Value} {mg mb : Str → Option Value} {d u : Nat} {outer : List Env} {gg : Option (List Code)} {s : Shared} {R : Result → Shared → Prop} {ar am : Addr} {vs ws : List Value} {xs ms : List Str}
   (X : (hd.heap_39 w.params).In s.heap) (T : Top vw loo mean mg mb s.heap) (hd' : d ≤ 480) (hu : u ≤ 300)
   (hl : s.heap.IsList ar vs.toArray) (hS : StrsAre vs xs) (hm : s.heap.IsList am ws.toArray) (hM : StrsAre ws ms) (hn : xs.length ≤ 10000) (hx : ∀ x ∈ xs, x.length ≤ 10000)
   (hR : ∀ h' tk D n (its : Array Value) as, s.heap.get? D = none → h'.get? D = some (W.listOf its n) → s.heap.StaysIn h' → Reads h' (.ref D) (rowsD (dueQ xs ms)) as → R (.ok (.ret (.ref D))) ⟨h', s.gens, s.drawn, tk, s.os⟩) :
   codeAny (model pg w) (Ar none d outer gg u) (.call (.ref 784) ⟨[.ref ar, .ref am],[]⟩) R s := by
  w_on
  w_strict (
    (refine' enterC (binds := [(Str.ofString "row", Value.ref ar), (Str.ofString "marked", Value.ref am)]) (X) (Top.nolimit T) ?k6 ?k7 ?k8 ?k9 ?kB ?kD ?_ ?c2 ?c3 ?c4; (case k6 => k_is); (case k7 => k_is); (case k8 => (simp only [recursionLimit]; omega)); (case k9 => exact BindsTo.of_eq rfl); (case kB => exact rfl); (case kD => decide +kernel); (case c2 => exact rfl); (case c3 => exact rfl); (case c4 => exact rfl); (try dsimp only [f46, f60, f87, f364, f371, f378, f540, f653, f660, f690, f697, f719, f726, f741, f748, f753, f758, f765, f772, f779, f784, f789, f794]))
    intro h' tk cells F N Y
    (have hY := CellsAre.one Y; obtain ⟨o', hE', d1'⟩ := hY; subst hE')
    k_unmd
    k_fold
    (repeat' (first | (k_unfold; (try dsimp only)) | ((fail_if_success (with_reducible show wpAny _ _ (eval (Expr.ListComp _ _ _ _) _) _ _ _)); first | walk1 | (dsimp only; walk1)) | fail "no step"))
    refine' comp_rows (fun x => if ms.contains x = true then [x, x, x] else sidesQ x) 10000 rfl ?hy (Fr.lst F hl) hS hx ?sz ?hc ?hcell rfl ?hn rfl ?elt ?done
    case sz => (simp only [sizeLine]; omega)
    case hc => with_unfolding_all rfl
    case hcell => decide
    case hn => decide
    case hy => (intro Q' hq; k_dflt (refine' nameX_L ?F ?v ?_ ?a ?b; (case F => k_asm); (case a => rfl); (case b => rfl); (case v => rfl); exact hq))
    case elt =>
      intro C b t s₂ m₂ E' hb hns hmx st
      have F2 := Fr.on F st
      have N2 := News.on N st
      k_steps
      · rename_i hin _ _ st1 hf1 hg1 _ _ _ _ _ st2 hf2 hg2 _ _ _
        exact RowOut.mk' (none_back st1 hf2) ⟨_, hg2, rfl, _, rfl⟩ (by rw [if_pos (by rw [any_contains]; exact hin)]; exact .cons _ _ (.cons _ _ (.cons _ _ .nil))) (StaysIn.tr st1 st2)
      · rename_i hin _ _ _ _ hg2 hS2 hf2 st2
        exact RowOut.mk' hf2 ⟨_, hg2, rfl, _, rfl⟩ (by rw [if_neg (by rw [any_contains, hin]; exact Bool.false_ne_true)]; exact hS2) st2
    case done =>
      intro D h2 tk2 n its as hD hg st hr
      k_steps
      exact hR _ _ _ _ _ _ (by cases q : s.heap.get? D with | none => rfl | some o => exact absurd (F.keep _ _ q) (by rw [hD]; exact fun e => nomatch e)) hg (StaysIn.tr F.keep st) hr)
end Mine

/-! part PQ -/
namespace Mine
def readQ (y : Str) : List Str := [stripQ y, stripQ (Txt.slice y (some 1) none), stripQ (Txt.slice y none (some (-1)))]
theorem lenE : (Str.ofString "").length = 0 := by decide +kernel
theorem cs_empty : cs (Str.ofString "") = [] := by decide +kernel
theorem strip_cs (x : Str) : cs (stripQ x) = stripL (cs x) := by
  unfold stripQ stripL
  rw [lit3]
  simp only [starts34, decide_eq_true_eq]
  by_cases h : (cs x).take 1 = [34]
  · simp only [if_pos h, ends34, decide_eq_true_eq, cs_from1]
    by_cases h2 : ((cs x).drop 1).drop (((cs x).drop 1).length - 1) = [34]
    · rw [if_pos h2, if_pos h2, cs_to1, cs_from1]
    · rw [if_neg h2, if_neg h2, cs_from1]
  · simp only [if_neg h, ends34, decide_eq_true_eq]
    by_cases h2 : (cs x).drop ((cs x).length - 1) = [34]
    · rw [if_pos h2, if_pos h2, cs_to1]
    · rw [if_neg h2, if_neg h2]
theorem sides_cs (x : Str) : (sidesQ x).map cs = sidesL (cs x) := by
  unfold sidesQ sidesL
  have e1 : (Txt.slice x (some 1) (some 2) = Str.ofString "\"") ↔ ((cs x).drop 1).take 1 = [34] := by
    rw [lit3, str_eq_iff, cs_12]
  have e2 : (Txt.slice x (some (-2)) (some (-1)) = Str.ofString "\"") ↔ (cs x).dropLast.drop ((cs x).length - 2) = [34] := by
    rw [lit3, str_eq_iff, cs_21]
  simp only [List.map_cons, List.map_nil]
  congr 1
  congr 1
  · by_cases h : ((cs x).drop 1).take 1 = [34]
    · rw [if_pos (e1.mpr h), if_pos h, cs_from2]
    · rw [if_neg (fun q => h (e1.mp q)), if_neg h, cs_from1]
  · congr 1
    by_cases h : (cs x).dropLast.drop ((cs x).length - 2) = [34]
    · rw [if_pos (e2.mpr h), if_pos h, cs_to2]
    · rw [if_neg (fun q => h (e2.mp q)), if_neg h, cs_to1]
theorem safe_sign (c : Nat) : occIn (Str.ofString "aZ=/@") ⟨#[c]⟩ = safeC c := by
  unfold occIn
  rw [StrLaws.found_one]
  have : (Str.ofString "aZ=/@").cps.toList = [97, 90, 61, 47, 64] := by decide +kernel
  rw [this]
  by_cases h : safeC c = true
  · rw [h]
    simp only [safeC, Bool.or_eq_true, beq_iff_eq] at h
    simp; omega
  · have h' : safeC c = false := by simpa using h
    rw [h']
    simp only [safeC, Bool.or_eq_false_iff, beq_eq_false_iff_ne] at h'
    simp; omega
theorem signs_eq (x : Str) : signs x = (cs x).map fun c => ⟨#[c]⟩ := by
  first | rfl | (unfold signs; simp)
theorem safe_cs (x : Str) : safeQ x = safeL (cs x) := by
  unfold safeQ safeL
  have e1 : (x != Str.ofString "") = !(cs x).isEmpty := by
    by_cases h : cs x = []
    · have : x = Str.ofString "" := cs_ext (h.trans cs_empty.symm)
      rw [h, this]; simp
    · have : x ≠ Str.ofString "" := fun q => h (by rw [q]; exact cs_empty)
      have h1 : (x != Str.ofString "") = true := by simpa using this
      have h2 : (cs x).isEmpty = false := by simpa using h
      rw [h1, h2]; rfl
  rw [e1, signs_eq]
  congr 1
  rw [List.filter_map, List.length_map]
  have e2 : ((fun a => !occIn (Str.ofString "aZ=/@") a) ∘ fun c => (⟨#[c]⟩ : Str)) = fun c => !safeC c := by
    funext c; simp [safe_sign]
  rw [e2]
  by_cases h : (cs x).all safeC = true
  · rw [h]
    have : (cs x).filter (fun c => !safeC c) = [] := by
      rw [List.filter_eq_nil_iff]
      intro a ha
      simp [List.all_eq_true.mp h a ha]
    rw [this]; rfl
  · have h' : (cs x).all safeC = false := by simpa using h
    rw [h']
    rw [decide_eq_false_iff_not]
    intro q
    have q := List.length_eq_zero_iff.mp q
    rw [List.filter_eq_nil_iff] at q
    refine h (List.all_eq_true.mpr fun a ha => ?_)
    have := q a ha
    simpa using this
theorem lit39 : cs (Str.ofString "'") = [39] := by decide +kernel
theorem enc_cs (x : Str) : cs (encQ x) = encL (cs x) := by
  unfold encQ encL
  rw [safe_cs]
  split
  · rfl
  · rw [cs_append, cs_append, lit39, lit1, lit2, cs_replace]
    rfl
theorem txt_join (z : Str) (ys : List Str) : Txt.join z ys = Str.join z ys := by
  exact StrLaws.glued_eq_join z ys
theorem line_cs (xs : List Str) : cs (lineQ xs) = List.intercalate [32] ((xs.map cs).map encL) := by
  unfold lineQ
  rw [txt_join, cs_join, show cs (Str.ofString " ") = [32] by decide +kernel, List.map_map, List.map_map]
  congr 1
  exact List.map_congr_left fun x _ => enc_cs x
theorem strands_fold : ∀ (l : List Nat) (pre : List Str) (y : Str), (let row := l.foldl strandsStep (pre ++ [y]); (row.dropLast ++ [row.getLastD ⟨#[]⟩ ++ Str.ofString "'"]).map cs) = pre.map cs ++ strL (cs y) l
  | [], pre, y => by simp [strL, cs_append, lit39]
  | c :: l, pre, y => by
    have ih := strands_fold l
    rw [List.foldl_cons, strandsStep_snoc]
    by_cases h : c = 39
    · subst h
      rw [if_pos rfl]
      have e : pre ++ [y ++ ⟨#[39]⟩, Str.ofString "'", Str.ofString "'"] = (pre ++ [y ++ ⟨#[39]⟩, Str.ofString "'"]) ++ [Str.ofString "'"] := by simp
      rw [e, ih]
      have e2 : strL (cs y) (39 :: l) = (cs y ++ [39]) :: [39] :: strL [39] l := if_pos rfl
      rw [e2, lit39]
      simp [cs_append, lit39]
    · rw [if_neg h, ih]
      have e2 : strL (cs y) (c :: l) = strL (cs y ++ [c]) l := if_neg h
      rw [e2, cs_append]
theorem strands_cs (x : Str) : (strandsQ x).map cs = strL [39] (cs x) := by
  have := strands_fold (cs x) [] (Str.ofString "'")
  rw [lit39] at this
  exact this
theorem toldOf_cs (x : Str) : (toldOf x).map cs = toldL (cs x) := by
  unfold toldOf toldL
  rw [safe_cs]
  split
  · rfl
  · exact strands_cs x
theorem told_cs (xs : List Str) : (toldQ xs).map cs = (xs.map cs).flatMap toldL := by
  unfold toldQ
  rw [List.map_flatMap, List.flatMap_map]
  congr 1
  funext x
  exact toldOf_cs x
theorem contains_cs (ms : List Str) (x : Str) : ms.contains x = (ms.map cs).contains (cs x) := by
  by_cases h : x ∈ ms
  · have : cs x ∈ ms.map cs := List.mem_map_of_mem h
    rw [List.contains_iff_mem.mpr h, List.contains_iff_mem.mpr this]
  · have : cs x ∉ ms.map cs := fun q => by
      obtain ⟨y, hy, e⟩ := List.mem_map.mp q
      exact h (cs_ext e ▸ hy)
    have a1 : ms.contains x = false := by simpa using h
    have a2 : (ms.map cs).contains (cs x) = false := by simpa using this
    rw [a1, a2]
theorem due_cs (xs ms : List Str) : (dueQ xs ms).map (·.map cs) = (xs.map cs).map (dueL (ms.map cs)) := by
  unfold dueQ
  rw [List.map_map, List.map_map]
  refine List.map_congr_left fun x _ => ?_
  show (if ms.contains x = true then [x, x, x] else sidesQ x).map cs = dueL (ms.map cs) (cs x)
  unfold dueL
  rw [contains_cs]
  split
  · rfl
  · exact sides_cs x
theorem cs_inj2 {a b : List (List Str)} (h : a.map (·.map cs) = b.map (·.map cs)) : a = b := by
  have inj1 : Function.Injective (fun r : List Str => r.map cs) := fun r q e => List.map_inj_right (f := cs) (fun _ _ e => cs_ext e) |>.mp e
  exact (List.map_inj_right (f := fun r : List Str => r.map cs) (fun _ _ e => inj1 e)).mp h
/-- signs that a text may have -/
def okL (l : List Nat) : Prop := ∀ c ∈ l, c < 0x110000
theorem okL.sub {a b : List Nat} (h : okL b) (s : ∀ c ∈ a, c ∈ b) : okL a := fun c hc => h c (s c hc)
theorem okL.app {a b : List Nat} (h : okL a) (k : okL b) : okL (a ++ b) := fun c hc => (List.mem_append.mp hc).elim (h c) (k c)
theorem ok39 : okL [39] := by intro c hc; rw [List.mem_singleton.mp hc]; decide
theorem ok_str : ∀ (w cur : List Nat), okL cur → okL w → ∀ t ∈ strL cur w, okL t
  | [], cur, hc, _, t, ht => by
    rw [List.mem_singleton.mp ht]; exact hc.app ok39
  | c :: w, cur, hc, hw, t, ht => by
    have hw' : okL w := hw.sub fun x hx => List.mem_cons_of_mem _ hx
    by_cases h : c = 39
    · subst h
      have e : strL cur (39 :: w) = (cur ++ [39]) :: [39] :: strL [39] w := if_pos rfl
      rw [e] at ht
      rcases List.mem_cons.mp ht with rfl | ht
      · exact hc.app ok39
      · rcases List.mem_cons.mp ht with rfl | ht
        · exact ok39
        · exact ok_str w [39] ok39 hw' t ht
    · have e : strL cur (c :: w) = strL (cur ++ [c]) w := if_neg h
      rw [e] at ht
      exact ok_str w _ (hc.app (hw.sub fun x hx => by rw [List.mem_singleton.mp hx]; exact .head _)) hw' t ht
theorem ok_told {w : List Nat} (h : okL w) : ∀ t ∈ toldL w, okL t := by
  unfold toldL
  split
  · intro t ht; rw [List.mem_singleton.mp ht]; exact h
  · exact ok_str w [39] ok39 h
theorem ok_due {ms : List (List Nat)} {t : List Nat} (h : okL t) : ∀ r ∈ dueL ms t, okL r := by
  intro r hr
  unfold dueL at hr
  split at hr
  · simp only [List.mem_cons, List.not_mem_nil, or_false] at hr
    rcases hr with rfl | rfl | rfl <;> exact h
  · unfold sidesL at hr
    simp only [List.mem_cons, List.not_mem_nil, or_false] at hr
    rcases hr with rfl | rfl | rfl
    · exact h
    · split
      · exact h.sub fun x hx => List.mem_of_mem_drop hx
      · exact h.sub fun x hx => List.mem_of_mem_drop hx
    · split
      · exact h.sub fun x hx => List.dropLast_subset _ (List.dropLast_subset _ hx)
      · exact h.sub fun x hx => List.dropLast_subset _ hx
/-- rows that may be laid -/
theorem canLay_strs : ∀ r : List Str, (∀ x ∈ r, okL (cs x)) → PyData.canLayAll0 (r.map PyData.str) = true
  | [], _ => rfl
  | x :: r, h => by
    show (x.cps.all (· < 0x110000) && PyData.canLayAll0 (r.map PyData.str)) = true
    rw [canLay_strs r fun y hy => h y (.tail _ hy), Bool.and_true]
    rw [Array.all_eq_true']
    intro c hc
    have := h x (.head _) c (by simpa using hc)
    simpa using this
theorem canLay_rows : ∀ rows : List (List Str), (∀ r ∈ rows, ∀ x ∈ r, okL (cs x)) → PyData.canLayAll0 (rows.map fun r => PyData.list (r.map PyData.str)) = true
  | [], _ => rfl
  | r :: rows, h => by
    show (PyData.canLayAll0 (r.map PyData.str) && PyData.canLayAll0 (rows.map fun r => PyData.list (r.map PyData.str))) = true
    rw [canLay_strs r (h r (.head _)), canLay_rows rows fun q hq => h q (.tail _ hq)]; rfl
theorem depth_strs : ∀ r : List Str, PyData.depthAll (r.map PyData.str) = 0
  | [] => rfl
  | x :: r => by
    show max 0 (PyData.depthAll (r.map PyData.str)) = 0
    rw [depth_strs r]; rfl
theorem depth_rows : ∀ rows : List (List Str), PyData.depthAll (rows.map fun r => PyData.list (r.map PyData.str)) ≤ 1
  | [] => Nat.zero_le _
  | r :: rows => by
    show max (PyData.depthAll (r.map PyData.str) + 1) (PyData.depthAll (rows.map fun r => PyData.list (r.map PyData.str))) ≤ 1
    rw [depth_strs]
    have := depth_rows rows
    omega
theorem rows_shaped {rows : List (List Str)} (h : ∀ r ∈ rows, ∀ x ∈ r, okL (cs x)) : SeqAt.shaped (rowsD rows) = true := by
  unfold SeqAt.shaped
  have h1 : (rowsD rows).canLay0 = true := canLay_rows rows h
  have h2 : (rowsD rows).depth ≤ 64 := by
    show PyData.depthAll _ + 1 ≤ 64
    have := depth_rows rows
    omega
  rw [h1, decide_eq_true h2]; rfl
section
variable {prog : Program} {w : World} {A : Around} {E : Value → Shared → Prop} {s : Shared} {Q : Value → Shared → Prop} {a b : Value} {rows : List (List Str)} {as bs : List Addr}
theorem rows_eq (ra : Reads s.heap a (rowsD rows) as) (rb : Reads s.heap b (rowsD rows) bs) (hk : ∀ r ∈ rows, ∀ x ∈ r, okL (cs x)) (hu : A.units + 64 < cLine) (h : Q (.bool true) s) : wpAny (model prog w) A (compareOp .Eq a b) Q E s := by
  have hs := rows_shaped hk
  refine SeqAt.compareEq_shaped ra rb hs hs hu ?_
  rw [SeqAt.eqv_refl _ (SeqAt.canLay_of_shaped hs)]; exact h
theorem rows_ne (ra : Reads s.heap a (rowsD rows) as) (rb : Reads s.heap b (rowsD rows) bs) (hk : ∀ r ∈ rows, ∀ x ∈ r, okL (cs x)) (hu : A.units + 64 < cLine) (h : Q (.bool false) s) : wpAny (model prog w) A (compareOp .NotEq a b) Q E s := by
  have hs := rows_shaped hk
  refine SeqAt.compareNe_shaped ra rb hs hs hu ?_
  rw [SeqAt.eqv_refl _ (SeqAt.canLay_of_shaped hs)]; exact h
end
theorem read_cs (y : Str) : (readQ y).map cs = readL (cs y) := by
  unfold readQ readL
  simp only [List.map_cons, List.map_nil, strip_cs, cs_from1, cs_to1]
abbrev litA : List Str := [Str.ofString "'"]
theorem litA_cs : litA.map cs = [[39]] := by show [cs (Str.ofString "'")] = _; rw [lit39]
theorem rows_of {ys ts : List Str} {ms : List Str} {raw : List (List Nat)} (h : ys.map cs = raw) (e : raw.map readL = (ts.map cs).map (dueL (ms.map cs))) : ys.map readQ = dueQ ts ms := by
  refine cs_inj2 ?_
  rw [due_cs, ← e, ← h, List.map_map, List.map_map]
  exact List.map_congr_left fun y _ => read_cs y
theorem snoc_of {α : Type} {xs : List α} (h : xs ≠ []) : ∃ i l, xs = i ++ [l] := ⟨xs.dropLast, xs.getLast h, (List.dropLast_concat_getLast h).symm⟩
theorem lineA {xs : List Str} (hne : xs ≠ []) : lx .sp [] (cs (lineQ xs)) = some ((xs.map cs).flatMap rawOf) := by
  obtain ⟨i, l, rfl⟩ := snoc_of hne
  rw [line_cs, List.map_append, List.map_cons, List.map_nil, told_line]
theorem rowsA {xs ys : List Str} (hne : xs ≠ []) (h : lx .sp [] (cs (lineQ xs)) = some (ys.map cs)) : ys.map readQ = dueQ (toldQ xs) litA := by
  rw [lineA hne] at h
  refine rows_of (Option.some.inj h).symm ?_
  rw [due39s, told_cs, litA_cs]
theorem cutBad {i : List Str} {l : Str} (h : safeQ l = false) : lx .sp [] (cs (Txt.slice (lineQ (i ++ [l])) none (some (-1)))) = none := by
  rw [cs_to1, line_cs, List.map_append, List.map_cons, List.map_nil]
  exact told_cut_bad _ _ (by rw [← safe_cs]; exact h)
def pieceQ (l : Str) : List Str := [Txt.slice l none (some (-1))].filter fun p => !(p == Str.ofString "")
theorem piece_cs (l : Str) : (pieceQ l).map cs = [(cs l).dropLast].filter fun p => p != [] := by
  unfold pieceQ
  by_cases h : (cs l).dropLast = []
  · have e : Txt.slice l none (some (-1)) = Str.ofString "" := cs_ext (by rw [cs_to1, h, cs_empty])
    rw [e, h]; rfl
  · have e : (Txt.slice l none (some (-1)) == Str.ofString "") = false := by
      rw [beq_eq_false_iff_ne]; intro q; exact h (by rw [← cs_to1, q, cs_empty])
    have e2 : ((cs l).dropLast != []) = true := by simpa using h
    rw [List.filter_cons_of_pos (by rw [e]; rfl), List.filter_cons_of_pos (by rw [e2])]
    simp [cs_to1]
theorem cutGood {i : List Str} {l : Str} (h : safeQ l = true) : lx .sp [] (cs (Txt.slice (lineQ (i ++ [l])) none (some (-1)))) = some ((i.map cs).flatMap rawOf ++ (pieceQ l).map cs) := by
  rw [cs_to1, line_cs, List.map_append, List.map_cons, List.map_nil, told_cut_good _ _ (by rw [← safe_cs]; exact h), piece_cs]
theorem told_last {i : List Str} {l : Str} (h : safeQ l = true) : (toldQ (i ++ [l])).dropLast = toldQ i := by
  have e : toldQ (i ++ [l]) = toldQ i ++ [l] := by
    unfold toldQ
    rw [List.flatMap_append]
    simp [toldOf, h]
  rw [e, List.dropLast_concat]
theorem rowsB {i ys : List Str} {l : Str} (hs : safeQ l = true) (h : lx .sp [] (cs (Txt.slice (lineQ (i ++ [l])) none (some (-1)))) = some (ys.map cs)) : ys.map readQ = dueQ (toldQ i ++ pieceQ l) litA := by
  rw [cutGood hs] at h
  refine rows_of (Option.some.inj h).symm ?_
  rw [List.map_append, due39s, List.map_append, List.map_append, told_cs, litA_cs]
  congr 1
  rw [piece_cs]
  have hs' : safeL (cs l) = true := by rw [← safe_cs]; exact hs
  by_cases h0 : (cs l).dropLast = []
  · rw [h0]; rfl
  · have e2 : ((cs l).dropLast != []) = true := by simpa using h0
    rw [List.filter_cons_of_pos (by rw [e2])]
    have hsafe : safeL (cs l).dropLast = true := by
      unfold safeL at hs' ⊢
      rw [Bool.and_eq_true] at hs' ⊢
      refine ⟨by simpa using h0, List.all_eq_true.mpr fun c hc => List.all_eq_true.mp hs'.2 c (List.dropLast_subset _ hc)⟩
    have := due39 (cs l).dropLast
    unfold rawOf toldL at this
    rw [if_pos hsafe, if_pos hsafe] at this
    simpa using this
theorem okPiece {l : Str} (h : okL (cs l)) : ∀ t ∈ pieceQ l, okL (cs t) := by
  intro t ht
  have h1 : cs t ∈ (pieceQ l).map cs := List.mem_map_of_mem ht
  rw [piece_cs] at h1
  rw [List.mem_singleton.mp (List.mem_filter.mp h1).1]
  exact h.sub (fun c hc => List.dropLast_subset _ hc)
/-- the second line -/
def freeQ (t : Str) : Bool := !(occIn t (Str.ofString "\""))
def markedQ (ts : List Str) : List Str := ts.filter freeQ
def wrapQ (ms : List Str) (t : Str) : Str := if ms.contains t = true then Str.ofString "\"" ++ t ++ Str.ofString "\"" else t
theorem free_cs (t : Str) : freeQ t = !((cs t).contains 34) := by
  unfold freeQ occIn
  rw [lit3, StrLaws.found_one]
  congr 1
  by_cases h : 34 ∈ cs t
  · rw [decide_eq_true h, List.contains_iff_mem.mpr h]
  · have : (cs t).contains 34 = false := by simpa using h
    rw [decide_eq_false h, this]
theorem marked_has {ts : List Str} {t : Str} (h : t ∈ ts) : (markedQ ts).contains t = freeQ t := by
  cases q : freeQ t
  · have : t ∉ markedQ ts := fun m => by have := (List.mem_filter.mp m).2; rw [q] at this; cases this
    simpa using this
  · exact List.contains_iff_mem.mpr (List.mem_filter.mpr ⟨h, q⟩)
theorem wrap_cs {ts : List Str} {t : Str} (h : t ∈ ts) : cs (wrapQ (markedQ ts) t) = wrapL (cs t) := by
  unfold wrapQ wrapL
  rw [marked_has h, free_cs]
  cases q : (cs t).contains 34
  · rw [if_pos (by rfl), if_neg (by decide), cs_append, cs_append, lit3]; rfl
  · rw [if_neg (by decide), if_pos rfl]
theorem join_nil : ∀ ys : List Str, cs (Txt.join (Str.ofString "") ys) = (ys.map cs).flatten := by
  intro ys
  rw [txt_join, cs_join, cs_empty]
  induction ys with
  | nil => rfl
  | cons y r ih =>
    cases r with
    | nil => simp [List.intercalate]
    | cons z r =>
      rw [List.map_cons, List.flatten_cons, ← ih]
      simp [List.intercalate, List.intersperse]
def againQ (ts : List Str) : Str := Txt.join (Str.ofString "") (ts.map (wrapQ (markedQ ts)))
theorem again_cs (ts : List Str) : cs (againQ ts) = (ts.map cs).flatMap wrapL := by
  unfold againQ
  rw [join_nil, List.map_map, List.flatMap_def, List.map_map]
  congr 1
  exact List.map_congr_left fun t ht => wrap_cs ht
theorem rowsC {xs ys : List Str} (h : lx .sp [] (cs (againQ (toldQ xs))) = some (ys.map cs)) : ys.map readQ = dueQ (toldQ xs) (markedQ (toldQ xs)) := by
  have hk : ∀ t ∈ (xs.map cs).flatMap toldL, ((markedQ (toldQ xs)).map cs).contains t = !(t.contains 34) := by
    intro t ht
    rw [← told_cs] at ht
    obtain ⟨x, hx, rfl⟩ := List.mem_map.mp ht
    rw [← contains_cs, marked_has hx, free_cs]
  have key := again_line (xs.map cs) ((markedQ (toldQ xs)).map cs) hk
  rw [again_cs, told_cs] at h
  rw [h] at key
  refine rows_of rfl ?_
  rw [told_cs]
  exact Option.some.inj key
theorem againA (xs : List Str) : lx .sp [] (cs (againQ (toldQ xs))) ≠ none := by
  intro h
  have hk : ∀ t ∈ (xs.map cs).flatMap toldL, ((markedQ (toldQ xs)).map cs).contains t = !(t.contains 34) := by
    intro t ht
    rw [← told_cs] at ht
    obtain ⟨x, hx, rfl⟩ := List.mem_map.mp ht
    rw [← contains_cs, marked_has hx, free_cs]
  have key := again_line (xs.map cs) ((markedQ (toldQ xs)).map cs) hk
  rw [again_cs, told_cs] at h
  rw [h] at key
  cases key
/-- the reading of tokens -/
theorem okRows {ts ms : List Str} (h : ∀ t ∈ ts, okL (cs t)) : ∀ r ∈ dueQ ts ms, ∀ x ∈ r, okL (cs x) := by
  intro r hr x hx
  have h1 : r.map cs ∈ (dueQ ts ms).map (·.map cs) := List.mem_map_of_mem hr
  rw [due_cs] at h1
  obtain ⟨l, hl, e⟩ := List.mem_map.mp h1
  obtain ⟨t, ht, rfl⟩ := List.mem_map.mp hl
  have h2 : cs x ∈ r.map cs := List.mem_map_of_mem hx
  rw [← e] at h2
  exact ok_due (h t ht) _ h2
theorem okTold {xs : List Str} (h : ∀ x ∈ xs, okL (cs x)) : ∀ t ∈ toldQ xs, okL (cs t) := by
  intro t ht
  have h1 : cs t ∈ (toldQ xs).map cs := List.mem_map_of_mem ht
  rw [told_cs] at h1
  obtain ⟨l, hl, e⟩ := List.mem_flatMap.mp h1
  obtain ⟨x, hx, rfl⟩ := List.mem_map.mp hl
  exact ok_told (h x hx) _ e
end Mine

/-! part PW -/
namespace Mine
theorem ok_item4 (k : Int) (h0 : 0 ≤ k) (h1 : k < 4) : okL (cs (Txt.item (Str.ofString "Z=/@") k)) := by
  have : ∀ k ∈ [(0 : Int), 1, 2, 3], ∀ c ∈ cs (Txt.item (Str.ofString "Z=/@") k), c < 0x110000 := by decide +kernel
  exact this k (by simp; omega)
theorem ok_item8 (k : Int) (h0 : 0 ≤ k) (h1 : k < 8) : okL (cs (Txt.item (Str.ofString "\\#;$~\n\té") k)) := by
  have : ∀ k ∈ [(0 : Int), 1, 2, 3, 4, 5, 6, 7], ∀ c ∈ cs (Txt.item (Str.ofString "\\#;$~\n\té") k), c < 0x110000 := by decide +kernel
  exact this k (by simp; omega)
theorem ok_lit {x : Str} (h : (cs x).all (· < 0x110000) = true) : okL (cs x) := fun c hc => by simpa using List.all_eq_true.mp h c hc
theorem ok_sign (z : Int) (h : z.fmod 8 ≠ 0) : okL (cs (signOf z)) := by
  have h8 := fm z 8 (by decide)
  have h4' := fm (z.fdiv 8) 4 (by decide)
  have h8' := fm (z.fdiv 8) 8 (by decide)
  have i4 := ok_item4 _ h4'.1 h4'.2
  have i8 := ok_item8 _ h8'.1 h8'.2
  unfold signOf signTab
  rcases (by omega : z.fmod 8 = 1 ∨ z.fmod 8 = 2 ∨ z.fmod 8 = 3 ∨ z.fmod 8 = 4 ∨ z.fmod 8 = 5 ∨ z.fmod 8 = 6 ∨ z.fmod 8 = 7) with e | e | e | e | e | e | e <;> rw [e]
  · exact ok_lit (x := Str.ofString "'") (by decide +kernel)
  · exact ok_lit (x := Str.ofString "'") (by decide +kernel)
  · exact ok_lit (x := Str.ofString "\"") (by decide +kernel)
  · exact ok_lit (x := Str.ofString " ") (by decide +kernel)
  · exact ok_lit (x := Str.ofString "a") (by decide +kernel)
  · exact i4
  · exact i8
structure WordsOk (n : Nat) (ws : List Str) : Prop where
  len : ∀ y ∈ ws, y.length ≤ n
  ok : ∀ y ∈ ws, okL (cs y)
  cnt : ws.length ≤ n
theorem words_step {n : Nat} {ws : List Str} {z : Int} (h : WordsOk n ws) : WordsOk (n + 1) (wordsStep ws z) ∧ wordsStep ws z ≠ [] := by
  refine ⟨⟨wordsStep_len h.len, fun y hy => ?_, ?_⟩, ?_⟩
  · unfold wordsStep at hy
    have e0 : okL (cs (Str.ofString "")) := by rw [cs_empty]; intro c hc; cases hc
    split at hy
    · rcases List.mem_append.mp hy with hy | hy
      · exact h.ok y hy
      · rw [List.mem_singleton.mp hy]; exact e0
    · rename_i hz
      have hs := ok_sign z hz
      split at hy
      · rw [List.mem_singleton.mp hy, cs_append]; exact e0.app hs
      · rename_i hw
        rcases List.mem_append.mp hy with hy | hy
        · exact h.ok y (List.dropLast_subset _ hy)
        · rw [List.mem_singleton.mp hy, cs_append]
          refine okL.app ?_ hs
          exact h.ok _ (by rw [List.getLastD_eq_getLast?, List.getLast?_eq_some_getLast hw]; exact List.getLast_mem hw)
  · have := h.cnt
    unfold wordsStep
    split
    · simp; omega
    · split
      · simp
      · simp; omega
  · unfold wordsStep
    split
    · simp
    · split <;> simp
theorem words_fold : ∀ (l : List Int) (n : Nat) (ws : List Str), WordsOk n ws → WordsOk (n + l.length) (l.foldl wordsStep ws) ∧ (l ≠ [] → l.foldl wordsStep ws ≠ [])
  | [], n, ws, h => ⟨h, fun q => absurd rfl q⟩
  | z :: l, n, ws, h => by
    obtain ⟨h1, h2⟩ := words_step (z := z) h
    obtain ⟨h3, h4⟩ := words_fold l (n + 1) _ h1
    refine ⟨?_, fun _ => ?_⟩
    · have e : n + (z :: l).length = n + 1 + l.length := by simp; omega
      rw [e]; exact h3
    · cases l with
      | nil => exact h2
      | cons a r => exact h4 (by simp)
theorem words_ok (ns : List Int) (hne : ns ≠ []) : WordsOk 10 ((ns.take 10).foldl wordsStep []) ∧ (ns.take 10).foldl wordsStep [] ≠ [] := by
  obtain ⟨h1, h2⟩ := words_fold (ns.take 10) 0 [] ⟨by simp, by simp, by simp⟩
  have hl : (ns.take 10).length ≤ 10 := by rw [List.length_take]; omega
  refine ⟨⟨fun y hy => Nat.le_trans (h1.len y hy) (by omega), h1.ok, Nat.le_trans h1.cnt (by omega)⟩, h2 ?_⟩
  cases ns with
  | nil => exact absurd rfl hne
  | cons z r => simp
/-- the lengths that the walk asks -/
theorem line_len {xs : List Str} (h : WordsOk 10 xs) : (lineQ xs).length ≤ 10000 := by
  have h1 := enc_sum xs fun x hx => Nat.le_trans (h.len x hx) (by decide)
  unfold lineQ
  rw [txt_join]
  have h2 := StrLaws.join_length_le (Str.ofString " ") (xs.map encQ)
  have h3 : (Str.ofString " ").length = 1 := by decide +kernel
  have h4 := h.cnt
  rw [List.length_map, h3] at h2
  omega
theorem strL_len : ∀ (w cur : List Nat), (∀ t ∈ strL cur w, t.length ≤ cur.length + w.length + 1) ∧ (strL cur w).length ≤ 2 * w.length + 1
  | [], cur => by simp [strL]
  | c :: w, cur => by
    by_cases h : c = 39
    · have e : strL cur (c :: w) = (cur ++ [39]) :: [39] :: strL [39] w := if_pos h
      have ih := strL_len w [39]
      rw [e]
      refine ⟨fun t ht => ?_, ?_⟩
      · rcases List.mem_cons.mp ht with rfl | ht
        · (try simp); (try omega)
        · rcases List.mem_cons.mp ht with rfl | ht
          · (try simp); (try omega)
          · have := ih.1 t ht
            simp at this ⊢; omega
      · have := ih.2
        simp at this ⊢; omega
    · have e : strL cur (c :: w) = strL (cur ++ [c]) w := if_neg h
      have ih := strL_len w (cur ++ [c])
      rw [e]
      refine ⟨fun t ht => ?_, ?_⟩
      · have := ih.1 t ht
        simp at this ⊢; omega
      · have := ih.2
        simp at this ⊢; omega
theorem told_len {xs : List Str} (h : ∀ y ∈ xs, y.length ≤ 10) : ∀ t ∈ toldQ xs, t.length ≤ 20 := by
  intro t ht
  have h1 : cs t ∈ (toldQ xs).map cs := List.mem_map_of_mem ht
  rw [told_cs] at h1
  obtain ⟨l, hl, e⟩ := List.mem_flatMap.mp h1
  obtain ⟨x, hx, rfl⟩ := List.mem_map.mp hl
  have hx := h x hx
  rw [cs_length] at hx ⊢
  unfold toldL at e
  split at e
  · rw [List.mem_singleton.mp e]; omega
  · have := (strL_len (cs x) [39]).1 _ e
    have e1 : [39].length = 1 := rfl
    rw [e1] at this; omega
theorem told_cnt : ∀ {xs : List Str}, (∀ y ∈ xs, y.length ≤ 10) → (toldQ xs).length ≤ 21 * xs.length
  | [], _ => by simp [toldQ]
  | x :: r, h => by
    have ih := told_cnt (xs := r) fun y hy => h y (.tail _ hy)
    have e : toldQ (x :: r) = toldOf x ++ toldQ r := by simp [toldQ]
    have h1 : (toldOf x).length ≤ 21 := by
      have h2 : ((toldOf x).map cs).length ≤ 21 := by
        rw [toldOf_cs]
        have hx := h x (.head _)
        rw [cs_length] at hx
        unfold toldL
        split
        · simp
        · have := (strL_len (cs x) [39]).2; omega
      simpa using h2
    rw [e, List.length_append, List.length_cons]; omega
end Mine

/-! part PZ -/
namespace Mine
theorem wrap_len (ms : List Str) (t : Str) (h : t.length ≤ 20) : (wrapQ ms t).length ≤ 22 := by
  unfold wrapQ
  split
  · rw [Str.length_append, Str.length_append]
    have e : (Str.ofString "\"").length = 1 := by decide +kernel
    omega
  · omega
theorem wrap_sum (ms : List Str) : ∀ ts : List Str, (∀ t ∈ ts, t.length ≤ 20) → ((ts.map (wrapQ ms)).map (·.length)).sum ≤ 22 * ts.length
  | [], _ => by simp
  | t :: r, h => by
    have h1 := wrap_len ms t (h t (.head _))
    have h2 := wrap_sum ms r fun y hy => h y (.tail _ hy)
    simp only [List.map_cons, List.sum_cons, List.length_cons] at *
    omega
theorem again_len {ts : List Str} (h : ∀ t ∈ ts, t.length ≤ 20) (hc : ts.length ≤ 1000) : (againQ ts).length ≤ 100000 := by
  unfold againQ
  rw [txt_join]
  have h2 := StrLaws.join_length_le (Str.ofString "") (ts.map (wrapQ (markedQ ts)))
  have h1 := wrap_sum (markedQ ts) ts h
  rw [lenE] at h2
  omega
theorem marked_len {ts : List Str} (h : ∀ t ∈ ts, t.length ≤ 20) : ∀ t ∈ markedQ ts, t.length ≤ 20 := fun t ht => h t (List.mem_filter.mp ht).1
end Mine

/-! part PS -/
namespace Mine
theorem slice_drop1 (vs : List Value) : (slicePick vs.toArray none (some (-1)) none).toList = vs.dropLast := by
  have e : sliceBounds none (some (-1)) none vs.toArray.size = sliceBounds none (some ((vs.length - 1 : Nat) : Int)) none vs.toArray.size := by
    unfold sliceBounds
    rw [List.size_toArray]
    generalize vs.length = n
    simp only [Option.getD_none, gt_iff_lt, Int.reduceLT, if_true, Int.max_def, Int.min_def, Prod.mk.injEq, true_and, and_true]
    repeat' split
    all_goals omega
  have e2 : slicePick vs.toArray none (some (-1)) none = slicePick vs.toArray none (some ((vs.length - 1 : Nat) : Int)) none := by
    unfold slicePick; rw [e]
  rw [e2, slicePick_upto' vs.toArray (vs.length - 1)]
  rw [List.dropLast_eq_take]
theorem strs_dropLast : ∀ {vs : List Value} {xs : List Str}, StrsAre vs xs → StrsAre vs.dropLast xs.dropLast
  | _, _, .nil => .nil
  | _, _, .cons y t .nil => .nil
  | _, _, .cons y t (.cons z u r) => .cons y t (strs_dropLast (.cons z u r))
theorem pieceT_len {i : List Str} {l : Str} (h : WordsOk 10 (i ++ [l])) : (∀ t ∈ toldQ i ++ pieceQ l, t.length ≤ 20) ∧ (toldQ i ++ pieceQ l).length ≤ 1000 := by
  have hi : ∀ y ∈ i, y.length ≤ 10 := fun y hy => h.len y (List.mem_append_left _ hy)
  have hl : l.length ≤ 10 := h.len l (by simp)
  have hc := told_cnt hi
  have hn : i.length ≤ 10 := by have := h.cnt; rw [List.length_append] at this; omega
  have hp : (pieceQ l).length ≤ 1 := by
    unfold pieceQ
    exact Nat.le_trans (List.length_filter_le _ _) (by simp)
  refine ⟨fun t ht => ?_, by rw [List.length_append]; omega⟩
  rcases List.mem_append.mp ht with ht | ht
  · exact told_len hi t ht
  · unfold pieceQ at ht
    rw [List.mem_singleton.mp (List.mem_filter.mp ht).1]
    exact Nat.le_trans (Txt.slice_le _ _ _) (by omega)
theorem ok_pieces {i : List Str} {l : Str} (h : WordsOk 10 (i ++ [l])) : ∀ t ∈ toldQ i ++ pieceQ l, okL (cs t) := by
  intro t ht
  rcases List.mem_append.mp ht with ht | ht
  · exact okTold (fun x hx => h.ok x (List.mem_append_left _ hx)) t ht
  · exact okPiece (h.ok l (by simp)) t ht
end Mine

/-! part B6 -/
namespace Mine
section
variable {prog : Program} {w : World} {A : Around} {E : Value → Shared → Prop} {s : Shared} {env : Env}
/-- a comprehension of texts over a list of texts, in any frame -/
theorem comp_txtE {elt iter : Expr} {x : Str} {px : Pos} {cs : Scope} {cl : List (Str × Addr)} {pos : Pos} {Q : Value → Shared → Prop} {ifs : List Expr} (xs : List Str) (g : Str → Str) (p : Str → Bool) (B : Nat)
    (hh : A.handled = none) (hy : ∀ (Q' : Value → Shared → Prop), (∀ vs ax s', s'.heap.IsList ax vs.toArray → StrsAre vs xs → (∃ h' tk, s' = ⟨h', s.gens, s.drawn, tk, s.os⟩ ∧ s.heap.StaysIn h') → Q' (.ref ax) s') → wpAny (model prog w) A (eval iter env) Q' E s) (hB : ∀ b ∈ xs, b.length ≤ B) (hsz : xs.length ≤ sizeLine)
    (hclos : closureFor cs env = pure cl) (hcell : ∀ y ∈ cs.names, y.2 ≠ .cell) (hkind : cs.kind = .function)
    (hnames : ∀ y ∈ cs.names, y.2 = .local → cs.names.lookup y.1 = some .local) (hx : cs.names.lookup x = some .local)
    (htest : ∀ C b t s₂ m₂ E', b.length ≤ B → s₂.heap.Ns (compEnvC cs cl C env).locals m₂ → m₂ x = some (.str b t) → s.heap.StaysIn s₂.heap →
      wpAny (model prog w) A (forIn ifs true fun c r => if r = true then do let ok ← isTrue c (compEnvC cs cl C env) (eval c (compEnvC cs cl C env)); pure (ForInStep.yield ok) else pure (ForInStep.yield r)) (TestOut (p b) s₂) E' s₂)
    (helt : ∀ C b t s₂ m₂ E', b.length ≤ B → p b = true → s₂.heap.Ns (compEnvC cs cl C env).locals m₂ → m₂ x = some (.str b t) → s.heap.StaysIn s₂.heap →
      wpAny (model prog w) A (eval elt (compEnvC cs cl C env)) (TxtOut (g b) s₂) E' s₂)
    (hQ : ∀ D (ys : List Value) n h' tk, s.heap.get? D = none → h'.get? D = some (W.listOf ys.toArray n) → s.heap.StaysIn h' → StrsAre ys ((xs.filter p).map g) → Q (.ref D) ⟨h', s.gens, s.drawn, tk, s.os⟩)
    (hs : ∀ x, foldedSetIterable iter env x = pure x := by intro _; rfl) :
    wpAny (model prog w) A (eval (.ListComp elt [⟨.Name x px, iter, ifs, 0⟩] cs pos) env) Q E s := by
  refine wpAny_ListComp_free (cl := cl) (fun v => match v with | .str b _ => p b | _ => false) (fun v z => ∃ b t t', v = .str b t ∧ z = .str (g b) t') hclos hcell hkind hnames hx ?_ hs
  refine hy _ fun vs ax s' hl hS ⟨h0, tk0, e0, st0⟩ => ?_
  subst e0
  have hlt : ax < h0.objs.size := by obtain ⟨_, e, _⟩ := hl; exact Heap.lt_size e
  refine wpAny_pyIter_list hl ?_
  have hlen := hS.length
  refine ⟨h0.objs.size, [h0.objs.size, ax], [h0.objs.size], vs.toArray.size, _, _, rfl, Walks.list hh _ _ (Nat.ne_of_lt hlt) vs.toArray, (by rw [List.size_toArray, hlen]; exact hsz), ⟨⟨_, Heap.get?_push_size _ rfl, rfl, rfl⟩, hl.push _⟩, ?_, ⟨?_, ?_⟩, ?_⟩
  · intro b hb
    show b < (h0.push _).objs.size
    rw [Heap.size_push]
    rcases List.mem_cons.mp hb with rfl | hb
    · exact Nat.lt_succ_self _
    · rw [List.mem_singleton.mp hb]; exact Nat.lt_succ_of_lt hlt
  · intro C i v s₃ m₃ E' _ hP hn hm hk' _
    obtain ⟨b, t, rfl, hb⟩ := hS.item i v (by simpa using hP)
    have st : s.heap.StaysIn s₃.heap := fun q o e => hk' q o (fun hm => by rw [List.mem_singleton.mp hm] at e; exact Nat.lt_irrefl _ (Heap.lt_size (st0 _ _ e))) (Heap.get?_push_of_some _ (st0 _ _ e))
    exact htest C b t s₃ m₃ E' (hB _ (List.mem_of_getElem? hb)) hn hm st
  · intro C i v s₃ m₃ E' _ hP hp hn hm hk' _
    obtain ⟨b, t, rfl, hb⟩ := hS.item i v (by simpa using hP)
    have st : s.heap.StaysIn s₃.heap := fun q o e => hk' q o (fun hm => by rw [List.mem_singleton.mp hm] at e; exact Nat.lt_irrefl _ (Heap.lt_size (st0 _ _ e))) (Heap.get?_push_of_some _ (st0 _ _ e))
    refine wpAny_mono (helt C b t s₃ m₃ E' (hB _ (List.mem_of_getElem? hb)) hp hn hm st) (fun z s₄ hz => ?_) fun _ _ e => e
    obtain ⟨⟨t', rfl⟩, hK⟩ := hz
    exact ⟨⟨b, t, t', rfl, rfl⟩, hK⟩
  · intro D h' tk ys vs' hnew hlD hplD hlen' hP hF hk'
    have e : vs' = vs := by simpa using list_of_places hlen' hP
    subst e
    have up : s.heap.StaysIn h' := fun q o e => hk' q o (fun hm => by rw [List.mem_singleton.mp hm] at e; exact Nat.lt_irrefl _ (Heap.lt_size (st0 _ _ e))) (Heap.get?_push_of_some _ (st0 _ _ e))
    obtain ⟨n, hpl⟩ := hplD
    have hD : h0.get? D = none := by
      cases q : h0.get? D with
      | none => rfl
      | some o => rw [Heap.get?_push_of_some _ q] at hnew; cases hnew
    have hStr : StrsAre ys.toList ((xs.filter p).map g) := by
      clear hQ hlD hpl hnew hk' hlen' hP hl helt htest hlen hsz hB hy
      generalize ys.toList = zs at hF
      induction hS generalizing zs with
      | nil => cases hF; exact .nil
      | cons b t hS' ih =>
        by_cases hb : p b = true
        · rw [List.filter_cons_of_pos (by simpa using hb)] at hF
          rw [List.filter_cons_of_pos (by simpa using hb)]
          cases hF with
          | cons hz hF =>
            obtain ⟨b', t₁, t', e1, rfl⟩ := hz
            cases e1
            exact .cons _ _ (ih _ hF)
        · rw [List.filter_cons_of_neg (by simpa using hb)] at hF
          rw [List.filter_cons_of_neg (by simpa using hb)]
          exact ih _ hF
    exact hQ D ys.toList n h' tk (none_back st0 hD) (by rw [Array.toArray_toList]; exact hpl) up hStr
end
end Mine

/-! part B5 -/
namespace Mine
section
variable {w : World} {d u : Nat} {outer : List Env} {gg : Option (List Code)} {s : Shared} {K : Frag} {h₀ : Heap} {news : List (Addr × Obj)}
    {R : Result → Shared → Prop} {name qual : Str} {params : Arguments} {body : List Stmt} {scope : Scope} {dV kV doc pm cdv ct oc : Value} {an od : Option Addr} {osl : Array (Option Value)} {f : Addr} {args : Args} {binds : List (Str × Value)}
/-- a def that may change the objects of the list 'news': all else is the ground -/
theorem enterM (X : K.In h₀) (hlim : h₀.NoLimit) (st : h₀.StaysIn s.heap) (hN : ∀ p ∈ news, s.heap.get? p.1 = some p.2 ∧ h₀.get? p.1 = none)
    (ho : K.lookup f = some ⟨oc, od, .func (fnOf name qual params body scope dV kV doc pm an cdv ct), osl⟩) (hcd : codeIn K cdv qual = true) (hroom : d < recursionLimit)
    (hbind : BindsTo s (fnOf name qual params body scope dV kV doc pm an cdv ct) args binds) (hloc : ∀ y ∈ binds, scope.names.lookup y.1 = some .local)
    (h : ∀ g h₁, h₀.StaysIn g → (∀ b o, s.heap.get? b = some o → b ∉ news.map (·.1) → g.get? b = some o) → Fr g s.heap.objs.size h₁ (fun y => binds.reverse.lookup y) → News g s.heap.objs.size h₁ news →
      wpAny (model pg w) ((Ar none d outer gg u).deeper (envOf qual scope s.heap.objs.size f cdv)) (execs body (envOf qual scope s.heap.objs.size f cdv))
        (fun fl s' => R (.ok (.ret (match fl with | .ret v => v | _ => .none))) s')
        (fun e s' => wpAny (model pg w) ((Ar none d outer gg u).deeper (envOf qual scope s.heap.objs.size f cdv)) (leaving (envOf qual scope s.heap.objs.size f cdv) e) (fun _ s'' => R (.error e) s'') (fun e' s'' => R (.error e') s'') s')
        { s with heap := h₁, toks := s.toks + binds.length })
    (hco : scope.isCoroutine = false) (hgen : scope.isGenerator = false) (hk : scope.kind = .function)
    (hcell : ∀ x ∈ scope.names, x.2 ≠ .cell) : codeAny (model pg w) (Ar none d outer gg u) (.call (.ref f) args) R s := by
  have Xs := X.keeps st
  refine codeAny_call_def (fd := fnOf name qual params body scope dV kV doc pm an cdv ct) (body := body) (binds := binds) hroom (Xs _ _ ho) rfl (hlim.keeps st) (codeRec_of Xs hcd) rfl hbind hcell hloc (fun h₁ hns hk₁ => ?_) hco hgen hk
  refine h (hideAll s.heap (news.map (·.1))) h₁ (fun b o e => hideAll_get _ (st b o e) fun hm => ?_) (fun b o e hb => hideAll_get _ e hb) ⟨hns, fun b o e => hk₁ b o (of_hideAll _ e), Nat.le_of_eq (hideAll_size _ _)⟩ fun p hp => ⟨hk₁ _ _ (hN p hp).1, Nat.ne_of_lt (Heap.lt_size (hN p hp).1), hideAll_none _ (List.mem_map_of_mem hp)⟩
  obtain ⟨p, hp, rfl⟩ := List.mem_map.mp hm
  rw [(hN p hp).2] at e; cases e
end
end Mine

/-! part D1 -/
namespace Mine

theorem index_call {w : World} {mean : ExcName → Option Value} {mg mb : Str → Option Value} {d u : Nat} {outer : List Env} {gg : Option (List Code)} {s : Shared} {R : Result → Shared → Prop} {t : Tok} {v : Value}
   (X : (hd.heap_39 w.params).In s.heap) (T : Top vw loo mean mg mb s.heap) (hd' : d ≤ 500) (hu : u ≤ 500)
   (hR : ∀ h' tk t', s.heap.StaysIn h' → R (.ok (.ret (.int 1 t'))) ⟨h', s.gens, s.drawn, tk, s.os⟩) :
   codeAny (model pg w) (Ar none d outer gg u) (.call (.ref 60) ⟨[.int 1 t, v],[]⟩) R s := by
  w_on
  w_strict (
    (refine' enter2 (by assumption) (Top.nolimit (by assumption)) ?k6 ?k7 ?k8 ?k9 ?kB ?kB2 ?_ ?c2 ?c3 ?c4 ?c5; (case k6 => k_is); (case k7 => k_is); (case k8 => (simp only [recursionLimit]; omega)); (case k9 => exact rfl); (case c5 => decide); (case kB => exact rfl); (case kB2 => exact rfl); (case c2 => exact rfl); (case c3 => exact rfl); (case c4 => exact rfl); (try dsimp only [f46, f60, f87, f364, f371, f378, f540, f653, f660, f690, f697, f719, f726, f741, f748, f753, f758, f765, f772, f779, f784, f789, f794]))
    intro h' F N
    k_fold
    k_steps
    exact hR _ _ _ (Fr.keep (by assumption)))
/-- the entries of a StringIO's dict -/
abbrev sioEs (P : Params) (t1 t2 t3 tn tb tp : Tok) (buf : Str) (pos : Int) : List DictEntry :=
  [⟨PyData.keyHash P (Str.ofString "_StringIO__newline"), .str (Str.ofString "_StringIO__newline") t1, .str (Str.ofString "\n") tn⟩,
   ⟨PyData.keyHash P (Str.ofString "_StringIO__buf"), .str (Str.ofString "_StringIO__buf") t2, .str buf tb⟩,
   ⟨PyData.keyHash P (Str.ofString "_StringIO__pos"), .str (Str.ofString "_StringIO__pos") t3, .int pos tp⟩]
/-- what is kept but for the ledger's own -/
def KeepBut (h h' : Heap) (as : List Addr) : Prop := ∀ b o, h.get? b = some o → b ∉ as → h'.get? b = some o
theorem check_call {w : World} {mean : ExcName → Option Value} {mg mb : Str → Option Value} {d u : Nat} {outer : List Env} {gg : Option (List Code)} {s : Shared} {R : Result → Shared → Prop} {sx sdx : Addr} {t1 t2 t3 tn tb tp : Tok} {buf : Str} {pos : Int}
   {h₀ : Heap} (X : (hd.heap_39 w.params).In h₀) (T : Top vw loo mean mg mb h₀) (st0 : h₀.StaysIn s.heap) (hd' : d ≤ 500) (hu : u ≤ 500)
   (hN0 : ∀ p ∈ [(sx, instObj 594 sdx), (sdx, dictOf (sioEs w.params t1 t2 t3 tn tb tp buf pos) 3)], s.heap.get? p.1 = some p.2 ∧ h₀.get? p.1 = none)
   (hR : ∀ h' tk, KeepBut s.heap h' [sx, sdx] → (∀ p ∈ [(sx, instObj 594 sdx), (sdx, dictOf (sioEs w.params t1 t2 t3 tn tb tp buf pos) 3)], h'.get? p.1 = some p.2) → R (.ok (.ret .none)) ⟨h', s.gens, s.drawn, tk, s.os⟩) :
   codeAny (model pg w) (Ar none d outer gg u) (.call (.ref 378) ⟨[.ref sx],[]⟩) R s := by
  w_on
  w_strict (
    (refine' enterM (binds := [(Str.ofString "self", Value.ref sx)]) X (Top.nolimit T) st0 hN0 ?k6 ?k7 ?k8 ?k9 ?kB ?_ ?c2 ?c3 ?c4 ?c5; (case k6 => k_is); (case k7 => k_is); (case k8 => (simp only [recursionLimit]; omega)); (case k9 => first | exact BindsTo.of_eq rfl | exact binds_K (Frag.In.keeps X st0) rfl (by k_is) rfl rfl rfl); (case c5 => decide); (case kB => exact locs rfl); (case c2 => exact rfl); (case c3 => exact rfl); (case c4 => exact rfl); (try dsimp only [f46, f60, f87, f364, f371, f378, f540, f653, f660, f690, f697, f719, f726, f741, f748, f753, f758, f765, f772, f779, f784, f789, f794]))
    intro g h' stg hk F N
    have Xg := X.keeps stg
    have Tg := T.keeps stg
    k_unmd
    k_fold
    k_steps
    exact hR _ _ (fun b o e hb => F.keep b o (hk b o e hb)) (fun p hp => (N p hp).1))
theorem Fr.back2 {g h h' : Heap} {L a1 a2 : Addr} {m : Str → Option Value} {news : List (Addr × Obj)} {o1 o2 : Obj} (F : Fr g L h m) (N : News g L h news) (kb : KeepBut h h' [a1, a2]) (h1 : (a1, o1) ∈ news) (h2 : (a2, o2) ∈ news) : Fr g L h' m := by
  have n1 := N _ h1
  have n2 := N _ h2
  refine ⟨F.ns.at' fun o e => kb _ _ e fun hm => ?_, fun b o e => kb _ _ (F.keep b o e) fun hm => ?_, F.above⟩
  · rcases List.mem_cons.mp hm with e | hm
    · exact n1.2.1 e.symm
    · exact n2.2.1 (List.mem_singleton.mp hm).symm
  · rcases List.mem_cons.mp hm with rfl | hm
    · rw [n1.2.2] at e; cases e
    · rw [List.mem_singleton.mp hm, n2.2.2] at e; cases e
theorem News.back2 {g h h' : Heap} {L a1 a2 : Addr} {news rest : List (Addr × Obj)} {o1 o2 o1' o2' : Obj} (N : News g L h news) (kb : KeepBut h h' [a1, a2]) (h1 : (a1, o1) ∈ news) (h2 : (a2, o2) ∈ news)
    (hp : ∀ p ∈ [(a1, o1'), (a2, o2')], h'.get? p.1 = some p.2) (hr : ∀ p ∈ rest, p ∈ news ∧ p.1 ≠ a1 ∧ p.1 ≠ a2) : News g L h' ((a1, o1') :: (a2, o2') :: rest) := by
  intro p hm
  rcases List.mem_cons.mp hm with rfl | hm
  · exact ⟨hp _ (.head _), (N _ h1).2⟩
  · rcases List.mem_cons.mp hm with rfl | hm
    · exact ⟨hp _ (.tail _ (.head _)), (N _ h2).2⟩
    · obtain ⟨h3, h4, h5⟩ := hr p hm
      refine ⟨kb _ _ (N p h3).1 fun hm => ?_, (N p h3).2⟩
      rcases List.mem_cons.mp hm with e | hm
      · exact h4 e
      · exact h5 (List.mem_singleton.mp hm)
local macro_rules | `(tactic| walk_at "call ref") => `(tactic| (k_here; (with_reducible show wpAny _ _ (call (Value.ref 60) [Value.int 1 _, _]) _ _ _); k_dflt (refine wpAny_call (index_call (by k_in) (Top.keeps (by assumption) (Fr.keep (by assumption))) (by dsimp only; omega) (by dsimp only; omega) ?_); intro h'' tk'' t'' st''; (have FF := Fr.on (by assumption) st''); (have NN := News.on (by assumption) st''); (try dsimp only); (try k_sweep))))
local macro_rules | `(tactic| walk_at "call ref") => `(tactic| (k_here; (with_reducible first | (show wpAny _ _ (call (Value.ref 378) [Value.ref _]) _ _ _) | (show wpAny _ _ (call (Value.ref 378, _).1 _) _ _ _)); (dsimp only [List.append_nil]); k_dflt (refine wpAny_call (check_call (by assumption) (by assumption) (Fr.keep (by assumption)) (by dsimp only; omega) (by dsimp only; omega) (fun p hp => ⟨News.get (by assumption) hp, News.fresh (by assumption) hp⟩) ?_); intro h'' tk'' kb'' hp''; (have FF := Fr.back2 (by assumption) (by assumption) kb'' (by k_mem) (by k_mem)); (have NN := News.back2 (rest := []) (by assumption) kb'' (by k_mem) (by k_mem) hp'' (fun _ h => nomatch h)); (try dsimp only); (try k_sweep))))
theorem slice_one {buf : Str} {pos : Nat} {y : Int} (h : pos < buf.length) (hy : y = pos + 1) : ∃ c, (cs buf)[pos]? = some c ∧ Txt.slice buf (some pos) (some y) = ⟨#[c]⟩ := by
  subst hy
  have hl : pos < buf.cps.toList.length := by rw [cs_length] at h; exact h
  have e := eq_of_beq (slice_closes (x := buf) (i := pos) (j := pos + 1) ⟨by omega, by omega, by omega⟩)
  refine ⟨buf.cps.toList[pos], List.getElem?_eq_getElem hl, e.trans ?_⟩
  have : ((pos : Int) + 1 - pos).toNat = 1 := by omega
  rw [this, Int.toNat_natCast, List.drop_eq_getElem_cons hl]
  rfl
theorem read_call {w : World} {mean : ExcName → Option Value} {mg mb : Str → Option Value} {d u : Nat} {outer : List Env} {gg : Option (List Code)} {s : Shared} {R : Result → Shared → Prop} {sx sdx : Addr} {t1 t2 t3 tn tb tp ta : Tok} {buf : Str} {pos : Nat}
   {h₀ : Heap} (X : (hd.heap_39 w.params).In h₀) (T : Top vw loo mean mg mb h₀) (st0 : h₀.StaysIn s.heap) (hd' : d ≤ 490) (hu : u ≤ 400) (hb : buf.length ≤ 100000) (hpos : pos ≤ buf.length) (hne : @Ne Nat sx sdx)
   (hN0 : ∀ p ∈ [(sx, instObj 594 sdx), (sdx, dictOf (sioEs w.params t1 t2 t3 tn tb tp buf pos) 3)], s.heap.get? p.1 = some p.2 ∧ h₀.get? p.1 = none)
   (hend : ∀ h' tk t', pos = buf.length → KeepBut s.heap h' [sx, sdx] → (∀ p ∈ [(sx, instObj 594 sdx), (sdx, dictOf (sioEs w.params t1 t2 t3 tn tb tp buf pos) 3)], h'.get? p.1 = some p.2) → R (.ok (.ret (.str (Str.ofString "") t'))) ⟨h', s.gens, s.drawn, tk, s.os⟩)
   (hgo : ∀ h' tk t' tp' c, (cs buf)[pos]? = some c → KeepBut s.heap h' [sx, sdx] → (∀ p ∈ [(sx, instObj 594 sdx), (sdx, dictOf (sioEs w.params t1 t2 t3 tn tb tp' buf ((pos + 1 : Nat) : Int)) 3)], h'.get? p.1 = some p.2) → R (.ok (.ret (.str ⟨#[c]⟩ t'))) ⟨h', s.gens, s.drawn, tk, s.os⟩) :
   codeAny (model pg w) (Ar none d outer gg u) (.call (.ref 540) ⟨[.ref sx, .int 1 ta],[]⟩) R s := by
  w_on
  w_strict (
    (refine' enterM (binds := [(Str.ofString "self", Value.ref sx), (Str.ofString "size", Value.int 1 ta)]) X (Top.nolimit T) st0 hN0 ?k6 ?k7 ?k8 ?k9 ?kB ?_ ?c2 ?c3 ?c4 ?c5; (case k6 => k_is); (case k7 => k_is); (case k8 => (simp only [recursionLimit]; omega)); (case k9 => first | exact BindsTo.of_eq rfl | exact binds_K (Frag.In.keeps X st0) rfl (by k_is) rfl rfl rfl); (case c5 => decide); (case kB => exact locs rfl); (case c2 => exact rfl); (case c3 => exact rfl); (case c4 => exact rfl); (try dsimp only [f46, f60, f87, f364, f371, f378, f540, f653, f660, f690, f697, f719, f726, f741, f748, f753, f758, f765, f772, f779, f784, f789, f794]))
    intro g h' stg hk F N
    have Xg := X.keeps stg
    have Tg := T.keeps stg
    clear X T hN0 st0
    k_unmd
    k_fold
    k_steps
    · exact hend _ _ _ (by omega) (fun b o e hb => Fr.keep (by assumption) b o (hk b o e hb)) (fun p hp => News.get (by assumption) hp)
    · obtain ⟨c, hc, e⟩ := slice_one (buf := buf) (pos := pos) (y := (pos : Int) + 1) (by omega) rfl
      rw [e]
      exact hgo _ _ _ _ c hc (fun b o e hb => Fr.keep (by assumption) b o (hk b o e hb)) (fun p hp => News.get (by assumption) hp)
    · obtain ⟨c, hc, e⟩ := slice_one (buf := buf) (pos := pos) (y := (buf.length : Int)) (by omega) (by omega)
      have e2 : (buf.length : Int) = ((pos + 1 : Nat) : Int) := by omega
      rw [e]
      refine' hgo _ _ _ _ c hc (fun b o e hb => Fr.keep (by assumption) b o (hk b o e hb)) ?_
      rotate_left
      rw [← e2]
      exact fun p hp => News.get (by assumption) hp)
end Mine

/-! part DQ -/
namespace Mine
theorem dq_mro : mroOf (.type "collections.deque") = pure [.type "collections.deque", .type "object"] := by rw [mroOf_type]; kernel_rfl
theorem dq_newL : typeLookup (.type "collections.deque") "__new__" = pure (some (.builtin "collections.deque.__new__")) := by rw [typeLookup_type, builtinLookup_eq_fast]; kernel_rfl
theorem dq_initS : Slot "collections.deque" "__init__" "collections.deque.__init__" :=
  .of (owner := "collections.deque") (n := "__init__") (by rw [typeLookup_type, builtinLookup_eq_fast]; kernel_rfl) (by decide +kernel) (by decide +kernel) (by decide +kernel)
    (by first | exact .inl (by decide +kernel) | exact .inr (by decide +kernel)) (by rw [isSubtype_type]; kernel_rfl)
theorem dq_called : TypeCalled "collections.deque" "collections.deque.__new__" "collections.deque.__init__" :=
  ⟨by decide +kernel, by decide +kernel, ⟨_, _, dq_mro⟩, madeBy_type dq_mro dq_newL (by decide +kernel), by decide +kernel, by rw [isSubtype_type]; kernel_rfl, dq_initS⟩
theorem dq_typeCall : checkTypeCall "collections.deque" ⟨[], []⟩ = pure () := by kernel_rfl
theorem dq_newCall : checkBuiltinCall "collections.deque.__new__" ⟨[.type "collections.deque"], []⟩ = pure () := by kernel_rfl
theorem dq_entryN : entryFor table "collections.deque.__new__" = some Builtin.«collections.deque.__new__» := by first | exact entryFor_of_fast (by kernel_rfl) | exact entryFor_of_tree (by kernel_rfl)
theorem dq_entryI : entryFor table "collections.deque.__init__" = some Builtin.«collections.deque.__init__» := by first | exact entryFor_of_fast (by kernel_rfl) | exact entryFor_of_tree (by kernel_rfl)
theorem dq_plainN : plainId "collections.deque.__new__" = true := by decide +kernel
theorem dq_lenS : Slot "collections.deque" "__len__" "collections.deque.__len__" :=
  .of (owner := "collections.deque") (n := "__len__") (by rw [typeLookup_type, builtinLookup_eq_fast]; kernel_rfl) (by decide +kernel) (by decide +kernel) (by decide +kernel)
    (by first | exact .inl (by decide +kernel) | exact .inr (by decide +kernel)) (by rw [isSubtype_type]; kernel_rfl)
theorem dq_entryL : entryFor table "collections.deque.__len__" = some Builtin.«collections.deque.__len__» := by first | exact entryFor_of_fast (by kernel_rfl) | exact entryFor_of_tree (by kernel_rfl)
theorem dq_noBool : typeLookup (.type "collections.deque") "__bool__" = pure none := by rw [typeLookup_type, builtinLookup_eq_fast]; kernel_rfl
theorem dq_sub : isSubtype (.type "collections.deque") (.type "collections.deque") = pure true := by rw [isSubtype_type]; kernel_rfl
theorem dq_noDict : typeHasDict (.type "collections.deque") = false := by decide +kernel
theorem dq_argsL (a : Value) : argsOk "collections.deque.__len__" ⟨[a], []⟩ := by unfold argsOk; kernel_rfl
theorem dq_argsI (a : Value) : argsOk "collections.deque.__init__" ⟨[a], []⟩ := by unfold argsOk; kernel_rfl
end Mine

/-! part DQ2 -/
namespace Mine
abbrev dqObj : Obj := { cls := .type "collections.deque", data := .fields #[.none, rawInt 0] }
theorem dq_nargs : Builtin.Deque.newArgs Builtin.Deque.ty ⟨[.type "collections.deque"], []⟩ = pure (.type "collections.deque", []) := by
  unfold Builtin.Deque.newArgs Builtin.Deque.ty
  simp only [dq_sub, pure_bind]
  kernel_rfl
section
variable {prog : Program} {w : World} {A : Around} {E : Value → Shared → Prop} {s : Shared}
theorem dq_new {Q₁ : Value → Shared → Prop} (h : Q₁ (.ref s.heap.objs.size) { s with heap := s.heap.push dqObj }) :
    codeAny (model prog w) A (.call (.builtin "collections.deque.__new__") ⟨[.type "collections.deque"], []⟩) (wants Q₁ E) s := by
  refine codeAny_of_tree ?_
  show wpAny _ A.in1 (do checkBuiltinCall "collections.deque.__new__" ⟨[.type "collections.deque"], []⟩; again (.builtin "collections.deque.__new__" ⟨[.type "collections.deque"], []⟩)) _ _ s
  refine wpAny_bind (wpAny_of_eq dq_newCall (wpAny_pure ⟨plainId_quiet dq_plainN _, codeAny_builtin dq_entryN ?_⟩))
  rw [Around.under_plainId dq_plainN _]
  show wpAny _ A.in1 (Builtin.Deque.newArgs Builtin.Deque.ty ⟨[.type "collections.deque"], []⟩ >>= fun p => Builtin.Deque.new p.1 #[] none >>= fun o => ret o) _ _ s
  rw [dq_nargs]
  refine wpAny_bind (m := pure _) (wpAny_pure ?_)
  refine wpAny_bind ?_
  unfold Builtin.Deque.new
  simp only [dq_noDict]
  rw [if_neg (by decide), if_neg (by decide)]
  refine wpAny_bind (m := pure none) (wpAny_pure ?_)
  refine wpAny_newObj_type ?_
  exact wpAny_pure h
theorem dq_init {R : Result → Shared → Prop} {a : Addr} (ha : s.heap.get? a = some dqObj) (h : ∀ h', h'.get? a = some dqObj → (∀ b o, b ≠ a → s.heap.get? b = some o → h'.get? b = some o) → R (.ok (.ret .none)) { s with heap := h' }) :
    wpAny (model prog w) A.in1 (Builtin.«collections.deque.__init__» ⟨[.ref a], []⟩)
      (fun fin s' => match fin with | .done f => R (.ok f) s' | .again c' => c'.quiet = true ∧ codeAny (model prog w) A c' R s') (fun e s' => R (.error e) s') s := by
  unfold Builtin.«collections.deque.__init__»
  show wpAny _ A.in1 (do setField (.ref a) 0 .none; Builtin.Deque.clear (.ref a); ret .none) _ _ s
  refine wpAny_bind (wpAny_setField ha rfl (by decide) ?_)
  have h2 : (s.heap.update a (Obj.mapFields (·.setIfInBounds 0 Value.none))).get? a = some dqObj := Heap.get?_update_self (Obj.mapFields (·.setIfInBounds 0 Value.none)) ha rfl
  refine wpAny_bind ?_
  unfold Builtin.Deque.clear Builtin.Deque.items
  refine wpAny_bind (wpAny_bind (wpAny_fieldsOf h2 rfl (wpAny_pure ?_)))
  show wpAny _ _ (if (0 : Nat) > 0 then _ else pure _) _ _ _
  rw [if_neg (by decide)]
  refine wpAny_pure (wpAny_pure ?_)
  exact h _ h2 fun b o hb e => (Heap.get?_update_other _ _ (Ne.symm hb)).trans e
theorem call_deque {Q : Value → Shared → Prop} (h : ∀ a h', s.heap.get? a = none → h'.get? a = some dqObj → s.heap.StaysIn h' → Q (.ref a) { s with heap := h' }) :
    wpAny (model prog w) A (call (.type "collections.deque") []) Q E s := by
  refine callType_codes (Q₁ := fun obj s₁ => obj = .ref s.heap.objs.size ∧ s₁ = { s with heap := s.heap.push dqObj }) dq_called dq_typeCall dq_entryI (dq_new ⟨rfl, rfl⟩) fun obj s₁ h₁ => ?_
  obtain ⟨rfl, rfl⟩ := h₁
  have hS : (s.heap.push dqObj).get? s.heap.objs.size = some dqObj := Heap.get?_push_size _ rfl
  have hn : s.heap.get? s.heap.objs.size = none := by
    cases q : s.heap.get? s.heap.objs.size with
    | none => rfl
    | some o => exact absurd (Heap.lt_size q) (Nat.lt_irrefl _)
  refine ⟨⟨_, hS, rfl⟩, dq_argsI _, dq_init hS fun h' e1 e2 => ⟨rfl, h _ h' hn e1 fun b o e => e2 b o (fun hb => ?_) (Heap.get?_push_of_some _ e)⟩⟩
  rw [hb, hn] at e; cases e
theorem truthy_deque {a : Addr} {Q : Bool → Shared → Prop} (ha : s.heap.get? a = some dqObj) (h : Q false { s with toks := s.toks + 1 + 1 }) : wpAny (model prog w) A (truthy (.ref a)) Q E s := by
  have hT : s.TypeIs (.ref a) "collections.deque" := ⟨_, ha, rfl⟩
  have key : wpAny (model prog w) A (runValue (.builtin "len" ⟨[.ref a], []⟩)) (fun r s' => r = .int 0 (s.toks + 1) ∧ Q false s') E s := by
    refine wpAny_runValue (codeAny_builtin entry_len ?_)
    rw [Around.under_plainId plain_len _]
    unfold Builtin.«len»
    refine wpAny_bind (m := oneArg "len" _) (wpAny_pure ?_)
    refine wpAny_bind (m := callSpecial? (.ref a) (Str.ofString "__len__")) (wpAny_callSpecial?_slot (name := Str.ofString "__len__") hT dq_lenS
      (wpAny_call_entry dq_lenS hT dq_entryL ?_ (dq_argsL _)))
    show wpAny _ _ (do retInt (← Builtin.Deque.size (.ref a))) _ _ s
    unfold Builtin.Deque.size
    refine wpAny_bind (wpAny_bind (wpAny_fieldsOf ha rfl (wpAny_pure ?_)))
    refine wpAny_bind (wpAny_mkInt (wpAny_pure ⟨_, rfl, ?_⟩))
    refine wpAny_bind (wpAny_holding (wpAny_pure ?_))
    refine wpAny_bind (wpAny_letGo ?_)
    show wpAny _ _ (if (0 : Int) < 0 then _ else _) _ _ _
    rw [if_neg (by omega)]
    show wpAny _ _ (if (0 : Int) ≥ 2 ^ 63 then _ else _) _ _ _
    rw [if_neg (by omega)]
    exact wpAny_bind (wpAny_mkInt (wpAny_pure ⟨rfl, h⟩))
  unfold truthy
  first
    | refine wpAny_bind (wpAny_callSpecial?_none (name := Str.ofString "__bool__") hT dq_noBool ?_)
    | refine wpAny_bind (wpAny_pure (wpAny_bind (wpAny_callSpecial?_none (name := Str.ofString "__bool__") hT dq_noBool ?_)))
  first
    | refine wpAny_bind (wpAny_specialOf (name := Str.ofString "__len__") hT dq_lenS.lookup ?_)
    | refine wpAny_bind (wpAny_pure (wpAny_bind (wpAny_specialOf (name := Str.ofString "__len__") hT dq_lenS.lookup ?_)))
  first
    | exact wpAny_bind (wpAny_mono key (fun r s' h' => by obtain ⟨rfl, hq⟩ := h'; exact wpAny_pure hq) fun _ _ e => e)
    | exact wpAny_bind (wpAny_pure (wpAny_bind (wpAny_mono key (fun r s' h' => by obtain ⟨rfl, hq⟩ := h'; exact wpAny_pure hq) fun _ _ e => e)))
end
end Mine

/-! part D2 -/
namespace Mine

def LS.val : LS → Tok → Value
  | .non, _ => .none
  | .sp, t => .str (Str.ofString " ") t
  | .a, t => .str (Str.ofString "a") t
  | .q c, t => .str ⟨#[c]⟩ t
abbrev shEs (P : Params) (kt vt : Nat → Tok) (sx pb fs : Addr) (stv : Value) (ln : Int) (lt : Tok) (tok : Str) (tt : Tok) : List DictEntry :=
  [⟨PyData.keyHash P (Str.ofString "instream"), .str (Str.ofString "instream") (kt 0), .ref sx⟩,
   ⟨PyData.keyHash P (Str.ofString "infile"), .str (Str.ofString "infile") (kt 1), .none⟩,
   ⟨PyData.keyHash P (Str.ofString "posix"), .str (Str.ofString "posix") (kt 2), .bool false⟩,
   ⟨PyData.keyHash P (Str.ofString "eof"), .str (Str.ofString "eof") (kt 3), .str (Str.ofString "") (vt 3)⟩,
   ⟨PyData.keyHash P (Str.ofString "commenters"), .str (Str.ofString "commenters") (kt 4), .str (Str.ofString "") (vt 4)⟩,
   ⟨PyData.keyHash P (Str.ofString "wordchars"), .str (Str.ofString "wordchars") (kt 5), .str (Str.ofString "abcdfeghijklmnopqrstuvwxyzABCDEFGHIJKLMNOPQRSTUVWXYZ0123456789_") (vt 5)⟩,
   ⟨PyData.keyHash P (Str.ofString "whitespace"), .str (Str.ofString "whitespace") (kt 6), .str (Str.ofString " \t\r\n") (vt 6)⟩,
   ⟨PyData.keyHash P (Str.ofString "whitespace_split"), .str (Str.ofString "whitespace_split") (kt 7), .bool true⟩,
   ⟨PyData.keyHash P (Str.ofString "quotes"), .str (Str.ofString "quotes") (kt 8), .str (Str.ofString "'\"") (vt 8)⟩,
   ⟨PyData.keyHash P (Str.ofString "escape"), .str (Str.ofString "escape") (kt 9), .str (Str.ofString "\\") (vt 9)⟩,
   ⟨PyData.keyHash P (Str.ofString "escapedquotes"), .str (Str.ofString "escapedquotes") (kt 10), .str (Str.ofString "\"") (vt 10)⟩,
   ⟨PyData.keyHash P (Str.ofString "state"), .str (Str.ofString "state") (kt 11), stv⟩,
   ⟨PyData.keyHash P (Str.ofString "pushback"), .str (Str.ofString "pushback") (kt 12), .ref pb⟩,
   ⟨PyData.keyHash P (Str.ofString "lineno"), .str (Str.ofString "lineno") (kt 13), .int ln lt⟩,
   ⟨PyData.keyHash P (Str.ofString "debug"), .str (Str.ofString "debug") (kt 14), .int 0 (vt 14)⟩,
   ⟨PyData.keyHash P (Str.ofString "token"), .str (Str.ofString "token") (kt 15), .str tok tt⟩,
   ⟨PyData.keyHash P (Str.ofString "filestack"), .str (Str.ofString "filestack") (kt 16), .ref fs⟩,
   ⟨PyData.keyHash P (Str.ofString "source"), .str (Str.ofString "source") (kt 17), .none⟩,
   ⟨PyData.keyHash P (Str.ofString "_punctuation_chars"), .str (Str.ofString "_punctuation_chars") (kt 18), .str (Str.ofString "") (vt 18)⟩]
/-- the four objects a lexer changes -/
abbrev lexN (P : Params) (kt vt : Nat → Tok) (lx ldx sx sdx pb fs : Addr) (t1 t2 t3 tn tb tp : Tok) (stv : Value) (ln : Int) (lt : Tok) (tok : Str) (tt : Tok) (buf : Str) (pos : Int) : List (Addr × Obj) :=
  [(lx, instObj 729 ldx), (ldx, dictOf (shEs P kt vt sx pb fs stv ln lt tok tt) 19), (sx, instObj 594 sdx), (sdx, dictOf (sioEs P t1 t2 t3 tn tb tp buf pos) 3)]
abbrev frm (lx : Addr) (nc : Option Value) (b : Bool) (te : Tok) : Str → Option Value := fun y =>
  if y = Str.ofString "nextchar" then nc else if y = Str.ofString "quoted" then some (.bool b) else if y = Str.ofString "escapedstate" then some (.str (Str.ofString " ") te) else [(Str.ofString "self", Value.ref lx)].reverse.lookup y
section
variable {prog : Program} {w : World} {A : Around} {E : Value → Shared → Prop} {Q : Flow → Shared → Prop} {s : Shared} {env : Env} {h₀ : Heap} {L : Addr}
/-- a while that is left by break alone -/
theorem whileX {test : Expr} {body : List Stmt} {pos : Pos} {m : Str → Option Value} {news : List (Addr × Obj)} (J : Nat → (Str → Option Value) → List (Addr × Obj) → Prop) (D : (Str → Option Value) → List (Addr × Obj) → Prop) {n₀ : Nat}
    (F : Fr h₀ L s.heap m) (N : News h₀ L s.heap news) (hJ : J n₀ m news)
    (turn : ∀ n m₁ news₁ h₁ tk₁, Fr h₀ L h₁ m₁ → News h₀ L h₁ news₁ → J n m₁ news₁ →
      wpAny (model prog w) A (isTrue test env (eval test env)) (fun b s₂ =>
        if b = true then wpAny (model prog w) A (execs body env) (WhileStep2 h₀ L s J (fun f s₃ => f = .next ∧ ∃ h' tk m₂ news₂, s₃ = { s with heap := h', toks := tk } ∧ Fr h₀ L h' m₂ ∧ News h₀ L h' news₂ ∧ D m₂ news₂) n) E s₂ else False) E { s with heap := h₁, toks := tk₁ })
    (done : ∀ h' tk m₂ news₂, Fr h₀ L h' m₂ → News h₀ L h' news₂ → D m₂ news₂ → Q .next { s with heap := h', toks := tk })
    (hE : PassesOwn (model prog w) A env E) :
    wpAny (model prog w) A (exec (.While test body [] pos) env) Q E s := by
  refine wpAny_mono (While_inv2 (Q := fun f s₃ => f = .next ∧ ∃ h' tk m₂ news₂, s₃ = { s with heap := h', toks := tk } ∧ Fr h₀ L h' m₂ ∧ News h₀ L h' news₂ ∧ D m₂ news₂) J F N hJ (fun n m₁ news₁ h₁ tk₁ a b c => ?_) hE) (fun f s₃ h => ?_) (fun _ _ x => x)
  · refine wpAny_mono (turn n m₁ news₁ h₁ tk₁ a b c) (fun b s₂ p => ?_) (fun _ _ x => x)
    cases b with
    | true => simpa using p
    | false => simp at p
  · obtain ⟨rfl, h', tk, m₂, news₂, rfl, F, N, d⟩ := h
    exact done h' tk m₂ news₂ F N d
theorem execs_split0 {b : List Stmt} {Γ : Ctx} (hΓ : Γ.In A) : ∀ (a : List Stmt) (p : _) (s : Shared), Sem.wp (model prog w) Γ (execs a env) (fun f _ s' => match f with | .next => wpAny (model prog w) A (execs b env) Q E s' | f => Q f s') (fun e _ s' => E e s') p s → Sem.wp (model prog w) Γ (execs (a ++ b) env) (fun f _ s' => Q f s') (fun e _ s' => E e s') p s
  | [], p, s, h => by
    rw [execs_nil] at h
    exact (show wpAny (model prog w) A (execs b env) Q E s from h) Γ p hΓ
  | x :: a, p, s, h => by
    rw [execs_cons, Sem.wp_bind'] at h
    rw [List.cons_append, execs_cons, Sem.wp_bind']
    refine Sem.wp_mono _ Γ _ (fun f p' s' h' => ?_) (fun _ _ _ h' => h') _ _ h
    cases f with
    | next => exact execs_split0 hΓ a p' s' h'
    | _ => exact h'
theorem execs_split {a b : List Stmt} (h : wpAny (model prog w) A (execs a env) (fun f s' => match f with | .next => wpAny (model prog w) A (execs b env) Q E s' | f => Q f s') E s) : wpAny (model prog w) A (execs (a ++ b) env) Q E s :=
  fun Γ p hΓ => execs_split0 hΓ a p s (h Γ p hΓ)
end
def PreEnd (h₀ : Heap) (L : Addr) (J : (Str → Option Value) → List (Addr × Obj) → Prop) (s : Shared) (f : Flow) (s₃ : Shared) : Prop :=
  f = .next ∧ ∃ h' tk m₂ news₂, s₃ = { s with heap := h', toks := tk } ∧ Fr h₀ L h' m₂ ∧ News h₀ L h' news₂ ∧ J m₂ news₂
def TurnW (h₀ : Heap) (L : Addr) (J : Nat → (Str → Option Value) → List (Addr × Obj) → Prop) (D : (Str → Option Value) → List (Addr × Obj) → Prop) (n : Nat) (s : Shared) (f : Flow) (s₃ : Shared) : Prop :=
  WhileStep2 h₀ L s J (fun f s₃ => f = .next ∧ ∃ h' tk m₂ news₂, s₃ = { s with heap := h', toks := tk } ∧ Fr h₀ L h' m₂ ∧ News h₀ L h' news₂ ∧ D m₂ news₂) n f s₃
section
variable {prog : Program} {w : World} {A : Around} {E : Value → Shared → Prop} {Q : Flow → Shared → Prop} {s : Shared} {env : Env} {h₀ : Heap} {L : Addr}
/-- a while that is left by break alone, its body in two parts -/
theorem whileX2 {test : Expr} {b1 b2 b3 : Stmt} {rest : List Stmt} {pos : Pos} {m : Str → Option Value} {news : List (Addr × Obj)} (J J2 : Nat → (Str → Option Value) → List (Addr × Obj) → Prop) (D : (Str → Option Value) → List (Addr × Obj) → Prop) {n₀ : Nat}
    (F : Fr h₀ L s.heap m) (N : News h₀ L s.heap news) (hJ : J n₀ m news)
    (turn : ∀ n m₁ news₁ h₁ tk₁, Fr h₀ L h₁ m₁ → News h₀ L h₁ news₁ → J n m₁ news₁ →
      wpAny (model prog w) A (isTrue test env (eval test env)) (fun b s₂ =>
        if b = true then wpAny (model prog w) A (execs [b1, b2, b3] env) (PreEnd h₀ L (J2 n) s) E s₂ else False) E { s with heap := h₁, toks := tk₁ })
    (turn2 : ∀ n m₁ news₁ h₁ tk₁, Fr h₀ L h₁ m₁ → News h₀ L h₁ news₁ → J2 n m₁ news₁ →
      wpAny (model prog w) A (execs rest env) (TurnW h₀ L J D n s) E { s with heap := h₁, toks := tk₁ })
    (done : ∀ h' tk m₂ news₂, Fr h₀ L h' m₂ → News h₀ L h' news₂ → D m₂ news₂ → Q .next { s with heap := h', toks := tk })
    (hE : PassesOwn (model prog w) A env E) :
    wpAny (model prog w) A (exec (.While test (b1 :: b2 :: b3 :: rest) [] pos) env) Q E s := by
  refine whileX J D F N hJ (fun n m₁ news₁ h₁ tk₁ a b c => ?_) done hE
  refine wpAny_mono (turn n m₁ news₁ h₁ tk₁ a b c) (fun b s₂ p => ?_) (fun _ _ x => x)
  cases b with
  | false => exact p
  | true =>
    simp only [if_true] at p ⊢
    refine execs_split (a := [b1, b2, b3]) (b := rest) (wpAny_mono p (fun f s₃ h => ?_) (fun _ _ x => x))
    obtain ⟨rfl, h', tk, m₂, news₂, rfl, F, N, d⟩ := h
    exact turn2 n m₂ news₂ h' tk F N d
theorem PreEnd.mk' {J : (Str → Option Value) → List (Addr × Obj) → Prop} {tk : Nat} {h' : Heap} {m₂ : Str → Option Value} {news₂ : List (Addr × Obj)} (F : Fr h₀ L h' m₂) (N : News h₀ L h' news₂) (hJ : J m₂ news₂) :
    PreEnd h₀ L J s Flow.next ⟨h', s.gens, s.drawn, tk, s.os⟩ := ⟨rfl, h', tk, m₂, news₂, rfl, F, N, hJ⟩
section
variable {J : Nat → (Str → Option Value) → List (Addr × Obj) → Prop} {D : (Str → Option Value) → List (Addr × Obj) → Prop} {n n' tk : Nat} {h' : Heap} {m₂ : Str → Option Value} {news₂ : List (Addr × Obj)}
theorem TurnW.on (F : Fr h₀ L h' m₂) (N : News h₀ L h' news₂) (hn : n' < n) (hJ : J n' m₂ news₂) :
    TurnW h₀ L J D n s .next ⟨h', s.gens, s.drawn, tk, s.os⟩ := ⟨h', tk, m₂, news₂, n', rfl, F, N, hn, hJ⟩
theorem TurnW.ct (F : Fr h₀ L h' m₂) (N : News h₀ L h' news₂) (hn : n' < n) (hJ : J n' m₂ news₂) :
    TurnW h₀ L J D n s .cont ⟨h', s.gens, s.drawn, tk, s.os⟩ := ⟨h', tk, m₂, news₂, n', rfl, F, N, hn, hJ⟩
theorem TurnW.bk (F : Fr h₀ L h' m₂) (N : News h₀ L h' news₂) (hD : D m₂ news₂) :
    TurnW h₀ L J D n s .brk ⟨h', s.gens, s.drawn, tk, s.os⟩ := ⟨rfl, h', tk, m₂, news₂, rfl, F, N, hD⟩
end
end
/-- what holds ahead of each turn -/
def Inv (buf : Str) (o : Option (LS × List Nat × List Nat)) (st : LS) (tok : Str) (pos : Nat) : Prop :=
  pos ≤ buf.length ∧ tok.length ≤ pos ∧ rt st (cs tok) ((cs buf).drop pos) = o ∧ (match st with | .non => pos = buf.length | .sp => cs tok = [] | .a => cs tok ≠ [] | .q c => isQ c = true ∧ cs tok ≠ [])
def LoopJ (P : Params) (kt vt : Nat → Tok) (lx ldx sx sdx pb fs : Addr) (t1 t2 t3 tn tb : Tok) (buf : Str) (o : Option (LS × List Nat × List Nat)) (n : Nat) (m : Str → Option Value) (news : List (Addr × Obj)) : Prop :=
  ∃ (st : LS) (stt lt tt tp te : Tok) (ln : Int) (tok : Str) (pos : Nat) (nc : Option Value) (b : Bool), m = frm lx nc b te ∧ news = lexN P kt vt lx ldx sx sdx pb fs t1 t2 t3 tn tb tp (st.val stt) ln lt tok tt buf pos ∧ n = buf.length - pos ∧ Inv buf o st tok pos
def LoopD (P : Params) (kt vt : Nat → Tok) (lx ldx sx sdx pb fs : Addr) (t1 t2 t3 tn tb : Tok) (buf : Str) (o : Option (LS × List Nat × List Nat)) (m : Str → Option Value) (news : List (Addr × Obj)) : Prop :=
  ∃ (st : LS) (stt lt tt tp te : Tok) (ln : Int) (tok : Str) (pos : Nat) (nc : Option Value) (b : Bool), m = frm lx nc b te ∧ news = lexN P kt vt lx ldx sx sdx pb fs t1 t2 t3 tn tb tp (st.val stt) ln lt tok tt buf pos ∧ pos ≤ buf.length ∧ tok.length ≤ pos ∧ o = some (st, cs tok, (cs buf).drop pos)
/-- what is read -/
def NC (buf z : Str) (pos pos' : Nat) : Prop := (z = Str.ofString "" ∧ pos = buf.length ∧ pos' = pos) ∨ ∃ c, z = ⟨#[c]⟩ ∧ (cs buf)[pos]? = some c ∧ pos' = pos + 1
def LoopJ2 (P : Params) (kt vt : Nat → Tok) (lx ldx sx sdx pb fs : Addr) (t1 t2 t3 tn tb : Tok) (buf : Str) (o : Option (LS × List Nat × List Nat)) (n : Nat) (m : Str → Option Value) (news : List (Addr × Obj)) : Prop :=
  ∃ (st : LS) (stt lt tt tp te tz : Tok) (ln : Int) (tok z : Str) (pos pos' : Nat) (b : Bool), m = frm lx (some (.str z tz)) b te ∧ news = lexN P kt vt lx ldx sx sdx pb fs t1 t2 t3 tn tb tp (st.val stt) ln lt tok tt buf pos' ∧ n = buf.length - pos ∧ NC buf z pos pos' ∧ Inv buf o st tok pos
theorem frm0 (lx : Addr) (te : Tok) : (fun y => if y = Str.ofString "escapedstate" then some (Value.str (Str.ofString " ") te) else if y = Str.ofString "quoted" then some (.bool false) else [(Str.ofString "self", Value.ref lx)].reverse.lookup y) = frm lx none false te := by
  funext y
  have a1 : Str.ofString "escapedstate" ≠ Str.ofString "nextchar" := by decide
  have a2 : Str.ofString "escapedstate" ≠ Str.ofString "quoted" := by decide
  have a3 : Str.ofString "quoted" ≠ Str.ofString "nextchar" := by decide
  by_cases h1 : y = Str.ofString "nextchar"
  · subst h1; simp only [frm, if_neg (Ne.symm a1), if_neg (Ne.symm a3), if_true]; rfl
  · by_cases h2 : y = Str.ofString "quoted"
    · subst h2; simp only [frm, if_neg (Ne.symm a2), if_neg a3, if_true]
    · simp only [frm, if_neg h1, if_neg h2]
theorem frm1 (lx : Addr) (te : Tok) (nc : Option Value) (b : Bool) (v : Option Value) : (fun y => if y = Str.ofString "nextchar" then v else frm lx nc b te y) = frm lx v b te := by
  funext y
  by_cases h1 : y = Str.ofString "nextchar"
  · simp only [frm, if_pos h1]
  · simp only [frm, if_neg h1]
theorem frm2 (lx : Addr) (te : Tok) (nc : Option Value) (b b' : Bool) (v : Option Value) : (fun y => if y = Str.ofString "quoted" then some (.bool b') else if y = Str.ofString "nextchar" then v else frm lx nc b te y) = frm lx v b' te := by
  funext y
  have a3 : Str.ofString "quoted" ≠ Str.ofString "nextchar" := by decide
  by_cases h1 : y = Str.ofString "nextchar"
  · subst h1; simp only [frm, if_neg (Ne.symm a3), if_true]
  · by_cases h2 : y = Str.ofString "quoted"
    · simp only [frm, if_neg h1, if_pos h2]
    · simp only [frm, if_neg h1, if_neg h2]
theorem backS {g h h' : Heap} {L a b c e : Addr} {oa ob oc oe oc' oe' : Obj} {m : Str → Option Value} (F : Fr g L h m) (N : News g L h [(a, oa), (b, ob), (c, oc), (e, oe)]) (kb : KeepBut h h' [c, e])
    (n1 : @Ne Nat a c) (n2 : @Ne Nat a e) (n3 : @Ne Nat b c) (n4 : @Ne Nat b e) (hp : ∀ p ∈ [(c, oc'), (e, oe')], h'.get? p.1 = some p.2) : Fr g L h' m ∧ News g L h' [(a, oa), (b, ob), (c, oc'), (e, oe')] := by
  refine ⟨Fr.back2 F N kb (by k_mem) (by k_mem), ?_⟩
  have M := News.back2 (rest := [(a, oa), (b, ob)]) N kb (by k_mem) (by k_mem) hp (by
    intro p hp
    rcases List.mem_cons.mp hp with rfl | hp
    · exact ⟨by k_mem, n1, n2⟩
    · rw [List.mem_singleton.mp hp]; exact ⟨by k_mem, n3, n4⟩)
  intro p hp
  refine M p ?_
  simp only [List.mem_cons, List.not_mem_nil, or_false] at hp ⊢
  rcases hp with h | h | h | h <;> simp [h]
theorem backL {g h h' : Heap} {L a b c e : Addr} {oa ob oc oe oa' ob' : Obj} {m : Str → Option Value} (F : Fr g L h m) (N : News g L h [(a, oa), (b, ob), (c, oc), (e, oe)]) (kb : KeepBut h h' [a, b])
    (n1 : @Ne Nat a c) (n2 : @Ne Nat a e) (n3 : @Ne Nat b c) (n4 : @Ne Nat b e) (hp : ∀ p ∈ [(a, oa'), (b, ob')], h'.get? p.1 = some p.2) : Fr g L h' m ∧ News g L h' [(a, oa'), (b, ob'), (c, oc), (e, oe)] := by
  refine ⟨Fr.back2 F N kb (by k_mem) (by k_mem), ?_⟩
  exact News.back2 (rest := [(c, oc), (e, oe)]) N kb (by k_mem) (by k_mem) hp (by
    intro p hp
    rcases List.mem_cons.mp hp with rfl | hp
    · exact ⟨by k_mem, n1.symm, n3.symm⟩
    · rw [List.mem_singleton.mp hp]; exact ⟨by k_mem, n2.symm, n4.symm⟩)
theorem pchars_call {w : World} {mean : ExcName → Option Value} {mg mb : Str → Option Value} {d u : Nat} {outer : List Env} {gg : Option (List Code)} {s : Shared} {R : Result → Shared → Prop} {lx ldx sx pb fs : Addr} {kt vt : Nat → Tok} {lt tt : Tok} {ln : Int} {stv : Value} {tok : Str}
   {h₀ : Heap} (X : (hd.heap_39 w.params).In h₀) (T : Top vw loo mean mg mb h₀) (st0 : h₀.StaysIn s.heap) (hd' : d ≤ 500) (hu : u ≤ 500)
   (hN0 : ∀ p ∈ [(lx, instObj 729 ldx), (ldx, dictOf (shEs w.params kt vt sx pb fs stv ln lt tok tt) 19)], s.heap.get? p.1 = some p.2 ∧ h₀.get? p.1 = none)
   (hR : ∀ h' tk, KeepBut s.heap h' [lx, ldx] → (∀ p ∈ [(lx, instObj 729 ldx), (ldx, dictOf (shEs w.params kt vt sx pb fs stv ln lt tok tt) 19)], h'.get? p.1 = some p.2) → R (.ok (.ret (.str (Str.ofString "") (vt 18)))) ⟨h', s.gens, s.drawn, tk, s.os⟩) :
   codeAny (model pg w) (Ar none d outer gg u) (.call (.ref 660) ⟨[.ref lx],[]⟩) R s := by
  w_on
  w_strict (
    (refine' enterM (binds := [(Str.ofString "self", Value.ref lx)]) X (Top.nolimit T) st0 hN0 ?k6 ?k7 ?k8 ?k9 ?kB ?_ ?c2 ?c3 ?c4 ?c5; (case k6 => k_is); (case k7 => k_is); (case k8 => (simp only [recursionLimit]; omega)); (case k9 => first | exact BindsTo.of_eq rfl | exact binds_K (Frag.In.keeps X st0) rfl (by k_is) rfl rfl rfl); (case c5 => decide); (case kB => exact locs rfl); (case c2 => exact rfl); (case c3 => exact rfl); (case c4 => exact rfl); (try dsimp only [f46, f60, f87, f364, f371, f378, f540, f653, f660, f690, f697, f719, f726, f741, f748, f753, f758, f765, f772, f779, f784, f789, f794]))
    intro g h' stg hk F N
    have Xg := X.keeps stg
    have Tg := T.keeps stg
    k_unmd
    k_fold
    k_steps
    exact hR _ _ (fun b o e hb => F.keep b o (hk b o e hb)) (fun p hp => (N p hp).1))
theorem mem2L {α : Type} {a b c e p : α} (h : p ∈ [a, b]) : p ∈ [a, b, c, e] := List.mem_append_left [c, e] h
theorem mem2R {α : Type} {a b c e p : α} (h : p ∈ [c, e]) : p ∈ [a, b, c, e] := List.mem_append_right [a, b] h


theorem frm1' (lx : Addr) (te : Tok) (nc : Option Value) (b : Bool) (z : Str) (tz : Tok) : (fun y => if y = Str.ofString "nextchar" then some (Value.str z tz) else frm lx nc b te y) = frm lx (some (.str z tz)) b te := frm1 lx te nc b _
section
variable {P : Params} {kt vt : Nat → Tok} {lx ldx sx sdx pb fs : Addr} {t1 t2 t3 tn tb tp : Tok} {buf : Str} {o : Option (LS × List Nat × List Nat)} {stt lt tt te tz : Tok} {ln : Int} {tok z : Str} {pos : Nat} {nc : Option Value} {b : Bool} {st : LS}
theorem J2_end (hI : Inv buf o st tok pos) (he : pos = buf.length) : LoopJ2 P kt vt lx ldx sx sdx pb fs t1 t2 t3 tn tb buf o (buf.length - pos) (fun y => if y = Str.ofString "nextchar" then some (Value.str (Str.ofString "") tz) else frm lx nc b te y)
    [(lx, instObj 729 ldx), (ldx, dictOf (shEs P kt vt sx pb fs (st.val stt) ln lt tok tt) 19), (sx, instObj 594 sdx), (sdx, dictOf (sioEs P t1 t2 t3 tn tb tp buf pos) 3)] :=
  ⟨st, stt, lt, tt, tp, te, tz, ln, tok, _, pos, pos, b, frm1 lx te nc b _, rfl, rfl, .inl ⟨rfl, he, rfl⟩, hI⟩
theorem J2_sign {c : Nat} (hI : Inv buf o st tok pos) (hc : (cs buf)[pos]? = some c) : LoopJ2 P kt vt lx ldx sx sdx pb fs t1 t2 t3 tn tb buf o (buf.length - pos) (fun y => if y = Str.ofString "nextchar" then some (Value.str ⟨#[c]⟩ tz) else frm lx nc b te y)
    [(lx, instObj 729 ldx), (ldx, dictOf (shEs P kt vt sx pb fs (st.val stt) ln lt tok tt) 19), (sx, instObj 594 sdx), (sdx, dictOf (sioEs P t1 t2 t3 tn tb tp buf ((pos + 1 : Nat) : Int)) 3)] :=
  ⟨st, stt, lt, tt, tp, te, tz, ln, tok, _, pos, pos + 1, b, frm1 lx te nc b _, rfl, rfl, .inr ⟨c, rfl, hc, rfl⟩, hI⟩
end
section
variable {prog : Program} {w : World} {A : Around} {E : Value → Shared → Prop} {s : Shared} {Q : Value → Shared → Prop}
theorem in_yes {x : Str} {c : Nat} {t u : Tok} (h : c ∈ cs x) (hq : Q (.bool true) s) : wpAny (model prog w) A (compareOp .In (.str ⟨#[c]⟩ u) (.str x t)) Q E s :=
  in_str (by rw [StrLaws.found_one, decide_eq_true h]; exact hq)
theorem in_no {x : Str} {c : Nat} {t u : Tok} (h : ¬ c ∈ cs x) (hq : Q (.bool false) s) : wpAny (model prog w) A (compareOp .In (.str ⟨#[c]⟩ u) (.str x t)) Q E s :=
  in_str (by rw [StrLaws.found_one, decide_eq_false h]; exact hq)
theorem in_litF {x y : Str} {t u : Tok} (h : (Builtin.Str.occurrences x y 0 x.length 1).isEmpty = true) (hq : Q (.bool false) s) : wpAny (model prog w) A (compareOp .In (.str y u) (.str x t)) Q E s :=
  in_str (by rw [h]; exact hq)
theorem notIn_no {x : Str} {c : Nat} {t u : Tok} (h : ¬ c ∈ cs x) (hq : Q (.bool true) s) : wpAny (model prog w) A (compareOp .NotIn (.str ⟨#[c]⟩ u) (.str x t)) Q E s :=
  notIn_str (by rw [StrLaws.found_one, decide_eq_false h]; exact hq)
theorem no_empty (c : Nat) : ¬ c ∈ cs (Str.ofString "") := by
  have : cs (Str.ofString "") = [] := by decide +kernel
  rw [this]; simp
theorem eq_yes {x y : Str} {t u : Tok} (h : (x == y) = true) (hq : Q (.bool true) s) : wpAny (model prog w) A (compareOp .Eq (.str x t) (.str y u)) Q E s := eq_str (by rw [h]; exact hq)
theorem eq_no {x y : Str} {t u : Tok} (h : (x == y) = false) (hq : Q (.bool false) s) : wpAny (model prog w) A (compareOp .Eq (.str x t) (.str y u)) Q E s := eq_str (by rw [h]; exact hq)
end
section
variable {prog : Program} {w : World} {A : Around} {E : Value → Shared → Prop} {s : Shared} {Q : Bool → Shared → Prop}
theorem truthy_yes {x : Str} {t : Tok} (hl : x.length ≤ 100001) (h : cs x ≠ []) (hq : Q true { s with toks := s.toks + 1 + 1 }) : wpAny (model prog w) A (truthy (.str x t)) Q E s := by
  refine SBL.truthy (by omega) ?_
  have e : ((x.length : Int) != 0) = true := by
    have : (cs x).length ≠ 0 := fun e => h (List.length_eq_zero_iff.mp e)
    rw [cs_length]
    simpa using this
  rw [e]; exact hq
theorem truthy_no {x : Str} {t : Tok} (h : cs x = []) (hq : Q false { s with toks := s.toks + 1 + 1 }) : wpAny (model prog w) A (truthy (.str x t)) Q E s := by
  have e0 : x.length = 0 := by rw [cs_length, h]; rfl
  refine SBL.truthy (by omega) ?_
  have e : ((x.length : Int) != 0) = false := by rw [e0]; rfl
  rw [e]; exact hq
end
theorem News.tl {g h : Heap} {L : Addr} {p : Addr × Obj} {r : List (Addr × Obj)} (N : News g L h (p :: r)) : News g L h r := fun q hq => N q (.tail _ hq)
theorem one_ne {c e : Nat} (h : ¬ c = e) : ((⟨#[c]⟩ : Str) == ⟨#[e]⟩) = false := by
  rw [beq_eq_false_iff_ne]; intro h'; injection h' with h'; injection h' with h'; injection h' with h'; exact h h'
theorem one_self (c : Nat) : ((⟨#[c]⟩ : Str) == ⟨#[c]⟩) = true := beq_self_eq_true _
theorem q_nosp {e : Nat} (h : isQ e = true) : ((⟨#[e]⟩ : Str) == Str.ofString " ") = false := by
  have : Str.ofString " " = ⟨#[32]⟩ := by decide +kernel
  rw [this]; refine one_ne fun h' => ?_
  subst h'; exact absurd h (by decide)
theorem ws_iff (c : Nat) : c ∈ cs (Str.ofString " \t\r\n") ↔ isWs c = true := by
  have : cs (Str.ofString " \t\r\n") = [32, 9, 13, 10] := by decide +kernel
  rw [this]; simp [isWs, or_assoc]
theorem q_iff (c : Nat) : c ∈ cs (Str.ofString "'\"") ↔ isQ c = true := by
  have : cs (Str.ofString "'\"") = [39, 34] := by decide +kernel
  rw [this]; simp [isQ]
theorem word_noq {c : Nat} (h : c ∈ cs (Str.ofString "abcdfeghijklmnopqrstuvwxyzABCDEFGHIJKLMNOPQRSTUVWXYZ0123456789_")) : ¬ c ∈ cs (Str.ofString "'\"") := by
  have h1 : ∀ c ∈ cs (Str.ofString "abcdfeghijklmnopqrstuvwxyzABCDEFGHIJKLMNOPQRSTUVWXYZ0123456789_"), isQ c = false := by decide +kernel
  rw [q_iff, h1 c h]; decide
theorem drop_c {l : List Nat} {pos c : Nat} (hc : l[pos]? = some c) : l.drop pos = c :: l.drop (pos + 1) := by
  obtain ⟨h, rfl⟩ := List.getElem?_eq_some_iff.mp hc
  exact List.drop_eq_getElem_cons h
theorem cs1 (c : Nat) : cs ⟨#[c]⟩ = [c] := rfl
theorem raisedS_mono {base h₀ g h : Heap} {l : List Env} {e t : Addr} {cls : Value} {vs : List Value} (st : h₀.StaysIn g) (R : RaisedS base g l e cls t vs [] h) : RaisedS base h₀ l e cls t vs [] h := by
  obtain ⟨⟨B, a1, a2, a3, a4, a5⟩, a6⟩ := R
  exact ⟨⟨B, a1, fun b o e => a2 b o (st b o e), (fun _ h => nomatch h), a4, a5⟩, a6⟩
theorem upSlots_mono {h₀ g h : Heap} (st : h₀.StaysIn g) (U : g.UpToSlots h) : h₀.UpToSlots h := fun b o e n => U b o (st b o e) n
theorem below_mono {A : Around} {base h₀ g : Heap} {outer : List Env} (KB : Below A base outer h₀) (stg : h₀.StaysIn g) : Below A base outer g :=
  ⟨KB.stack, fun b o e => stg _ _ (KB.stays b o e), KB.frames.of_keeps fun b o e _ => ⟨o, stg _ _ e, rfl⟩⟩
section
variable {buf tok : Str} {o : Option (LS × List Nat × List Nat)} {pos c e : Nat}
theorem ne_app : cs (tok ++ ⟨#[c]⟩) ≠ [] := by rw [cs_append]; exact List.append_ne_nil_of_right_ne_nil _ (List.cons_ne_nil _ _)
theorem lt_of_c (hc : (cs buf)[pos]? = some c) : pos < buf.length := by rw [cs_length]; exact (List.getElem?_eq_some_iff.mp hc).1
theorem Inv_sp_ws (h : Inv buf o .sp tok pos) (hc : (cs buf)[pos]? = some c) (h1 : c ∈ cs (Str.ofString " \t\r\n")) : Inv buf o .sp tok (pos + 1) := by
  obtain ⟨a, l, b, d⟩ := h
  rw [drop_c hc] at b
  have h1 := (ws_iff c).mp h1
  exact ⟨lt_of_c hc, Nat.le_succ_of_le l, by rw [← b]; exact (if_pos h1).symm, d⟩
theorem not_true {b : Bool} (h : ¬ b = true) : b = false := by simpa using h
theorem Inv_sp_q (h : Inv buf o .sp tok pos) (hc : (cs buf)[pos]? = some c) (h1 : ¬ c ∈ cs (Str.ofString " \t\r\n")) (h2 : c ∈ cs (Str.ofString "'\"")) : Inv buf o (.q c) ⟨#[c]⟩ (pos + 1) := by
  obtain ⟨a, l, b, d⟩ := h
  rw [drop_c hc] at b
  rw [ws_iff] at h1
  rw [q_iff] at h2
  refine ⟨lt_of_c hc, Nat.le_add_left 1 pos, ?_, h2, by simp⟩
  rw [← b]
  show _ = if isWs c then _ else if isQ c then _ else _
  rw [if_neg h1, if_pos h2]
theorem Inv_sp_a (h : Inv buf o .sp tok pos) (hc : (cs buf)[pos]? = some c) (h1 : ¬ c ∈ cs (Str.ofString " \t\r\n")) (h2 : ¬ c ∈ cs (Str.ofString "'\"")) : Inv buf o .a ⟨#[c]⟩ (pos + 1) := by
  obtain ⟨a, l, b, d⟩ := h
  rw [drop_c hc] at b
  rw [ws_iff] at h1
  rw [q_iff] at h2
  refine ⟨lt_of_c hc, Nat.le_add_left 1 pos, ?_, by simp⟩
  rw [← b]
  show _ = if isWs c then _ else if isQ c then _ else _
  rw [if_neg h1, if_neg h2]
theorem Inv_a_on (h : Inv buf o .a tok pos) (hc : (cs buf)[pos]? = some c) (h1 : ¬ c ∈ cs (Str.ofString " \t\r\n")) : Inv buf o .a (tok ++ ⟨#[c]⟩) (pos + 1) := by
  obtain ⟨a, l, b, d⟩ := h
  rw [drop_c hc] at b
  rw [ws_iff] at h1
  refine ⟨lt_of_c hc, by rw [Str.length_append]; exact Nat.succ_le_succ l, ?_, ne_app⟩
  rw [← b, cs_append]
  show _ = if isWs c then _ else _
  rw [if_neg h1]
theorem D_a_end (h : Inv buf o .a tok pos) (hc : (cs buf)[pos]? = some c) (h1 : c ∈ cs (Str.ofString " \t\r\n")) : pos + 1 ≤ buf.length ∧ tok.length ≤ pos + 1 ∧ o = some (.sp, cs tok, (cs buf).drop (pos + 1)) := by
  obtain ⟨a, l, b, d⟩ := h
  rw [drop_c hc] at b
  rw [ws_iff] at h1
  refine ⟨lt_of_c hc, Nat.le_succ_of_le l, ?_⟩
  rw [← b]
  exact if_pos h1
theorem Inv_q_on (h : Inv buf o (.q e) tok pos) (hc : (cs buf)[pos]? = some c) (h1 : ¬ c = e) : Inv buf o (.q e) (tok ++ ⟨#[c]⟩) (pos + 1) := by
  obtain ⟨a, l, b, d⟩ := h
  rw [drop_c hc] at b
  refine ⟨lt_of_c hc, by rw [Str.length_append]; exact Nat.succ_le_succ l, ?_, d.1, ne_app⟩
  rw [← b, cs_append]
  exact (if_neg h1).symm
theorem D_q_end (h : Inv buf o (.q e) tok pos) (hc : (cs buf)[pos]? = some e) : pos + 1 ≤ buf.length ∧ (tok ++ (⟨#[e]⟩ : Str)).length ≤ pos + 1 ∧ o = some (.sp, cs (tok ++ ⟨#[e]⟩), (cs buf).drop (pos + 1)) := by
  obtain ⟨a, l, b, d⟩ := h
  rw [drop_c hc] at b
  refine ⟨lt_of_c hc, by rw [Str.length_append]; exact Nat.succ_le_succ l, ?_⟩
  rw [← b, cs_append]
  exact if_pos rfl
theorem drop_end (he : pos = buf.length) : (cs buf).drop pos = [] := by rw [he, cs_length, List.drop_length]
theorem D_sp_eof (h : Inv buf o .sp tok pos) (he : pos = buf.length) : pos ≤ buf.length ∧ tok.length ≤ pos ∧ o = some (.non, cs tok, (cs buf).drop pos) := by
  obtain ⟨a, l, b, d⟩ := h
  rw [drop_end he] at *
  exact ⟨a, l, b.symm⟩
theorem D_a_eof (h : Inv buf o .a tok pos) (he : pos = buf.length) : pos ≤ buf.length ∧ tok.length ≤ pos ∧ o = some (.non, cs tok, (cs buf).drop pos) := by
  obtain ⟨a, l, b, d⟩ := h
  rw [drop_end he] at *
  exact ⟨a, l, b.symm⟩
theorem D_non_eof (h : Inv buf o .non tok pos) : pos ≤ buf.length ∧ (Str.ofString "").length ≤ pos ∧ o = some (.non, cs (Str.ofString ""), (cs buf).drop pos) := by
  obtain ⟨a, l, b, d⟩ := h
  refine ⟨a, by rw [show (Str.ofString "").length = 0 by decide +kernel]; exact Nat.zero_le _, ?_⟩
  rw [← b, rt_non]
  have : cs (Str.ofString "") = [] := by decide +kernel
  rw [this]
theorem q_eof (h : Inv buf o (.q e) tok pos) (he : pos = buf.length) : o = none := by
  obtain ⟨a, l, b, d⟩ := h
  rw [drop_end he] at *
  exact b.symm
end
theorem frm3 (lx : Addr) (te : Tok) (nc : Option Value) (b b' : Bool) : (fun y => if y = Str.ofString "quoted" then some (Value.bool b') else frm lx nc b te y) = frm lx nc b' te := by
  funext y
  have a3 : Str.ofString "nextchar" ≠ Str.ofString "quoted" := by decide
  by_cases h1 : y = Str.ofString "nextchar"
  · subst h1; simp only [frm, if_neg a3, if_true]
  · by_cases h2 : y = Str.ofString "quoted"
    · simp only [frm, if_neg h1, if_pos h2]
    · simp only [frm, if_neg h1, if_neg h2]
theorem Fr.q {g h : Heap} {L lx : Addr} {te : Tok} {nc : Option Value} {b b' : Bool} (F : Fr g L h (fun y => if y = Str.ofString "quoted" then some (Value.bool b') else frm lx nc b te y)) : Fr g L h (frm lx nc b' te) := by rw [frm3] at F; exact F
end Mine

/-! part D3 -/
namespace Mine

local macro_rules | `(tactic| walk_at "getAttr ref") => `(tactic| (k_here; (with_reducible show wpAny _ _ (getAttr (Value.ref _) (Str.ofString "punctuation_chars") _) _ _ _); k_dflt (refine' get_prop ?k1 ?k2 ?k3 ?k4 ?k5 ?k6 ?k7 ?k8 ?k9 ?_; (case k1 => k_asm); (case k2 => k_asm); (case k3 => k_inst); (case k4 => k_is); (case k5 => k_is); (case k6 => k_is); (case k7 => k_is); (case k8 => k_is); (case k9 => k_is); refine pchars_call (by assumption) (by assumption) (Fr.keep (by assumption)) (by (try dsimp only [Around.deeper, Around.in1]); omega) (by (try dsimp only [Around.deeper, Around.in1]); omega) (fun p hp => ⟨News.get (News.tl (by assumption)) (mem2L hp), News.fresh (News.tl (by assumption)) (mem2L hp)⟩) ?_; intro h'' tk'' kb'' hp''; (have FN := backL (by assumption) (News.tl (by assumption)) kb'' (by assumption) (by assumption) (by assumption) (by assumption) hp''); (obtain ⟨FF, NN⟩ := FN); refine handed_on rfl ?_; (try dsimp only); (try k_sweep))))
local macro_rules | `(tactic| walk_at "getAttr ref") => `(tactic| (k_here; (with_reducible show wpAny _ _ (getAttr (Value.ref _) (Str.ofString "punctuation_chars") _) _ _ _); k_dflt (refine' get_prop ?k1 ?k2 ?k3 ?k4 ?k5 ?k6 ?k7 ?k8 ?k9 ?_; (case k1 => k_asm); (case k2 => k_asm); (case k3 => k_inst); (case k4 => k_is); (case k5 => k_is); (case k6 => k_is); (case k7 => k_is); (case k8 => k_is); (case k9 => k_is); refine pchars_call (by assumption) (by assumption) (Fr.keep (by assumption)) (by (try dsimp only [Around.deeper, Around.in1]); omega) (by (try dsimp only [Around.deeper, Around.in1]); omega) (fun p hp => ⟨News.get (by assumption) (mem2L hp), News.fresh (by assumption) (mem2L hp)⟩) ?_; intro h'' tk'' kb'' hp''; (have FN := backL (by assumption) (by assumption) kb'' (by assumption) (by assumption) (by assumption) (by assumption) hp''); (obtain ⟨FF, NN⟩ := FN); refine handed_on rfl ?_; (try dsimp only); (try k_sweep))))
local macro_rules | `(tactic| walk_at "call ref") => `(tactic| (k_here; (with_reducible first | (show wpAny _ _ (call (Value.ref 540) _) _ _ _) | (show wpAny _ _ (call (Value.ref 540, _).1 _) _ _ _)); (try dsimp only [List.append_nil, List.cons_append, List.nil_append]); k_dflt (refine wpAny_call (read_call (by assumption) (by assumption) (Fr.keep (by assumption)) (by (try dsimp only [Around.deeper, Around.in1]); omega) (by (try dsimp only [Around.deeper, Around.in1]); omega) (by assumption) (by assumption) (by assumption) (fun p hp => ⟨News.get (by assumption) (mem2R hp), News.fresh (by assumption) (mem2R hp)⟩) ?_ ?_); (intro h'' tk'' t'' he'' kb'' hp''; (have FN := backS (by assumption) (by assumption) kb'' (by assumption) (by assumption) (by assumption) (by assumption) hp''); (obtain ⟨FF, NN⟩ := FN); (try dsimp only); (try k_sweep)); rotate_left; (intro h'' tk'' t'' tp'' c'' hc'' kb'' hp''; (have FN := backS (by assumption) (by assumption) kb'' (by assumption) (by assumption) (by assumption) (by assumption) hp''); (obtain ⟨FF, NN⟩ := FN); (try dsimp only); (try k_sweep)); rotate_left)))
local macro_rules | `(tactic| walk_at "compareOp In str str") => `(tactic| (k_here; k_dflt (first | refine in_no (no_empty _) ?_ | (with_reducible refine in_yes (by assumption) ?_) | (with_reducible refine in_no (by assumption) ?_) | refine in_litF (by decide +kernel) ?_)))
local macro_rules | `(tactic| walk_at "compareOp NotIn str str") => `(tactic| (k_here; k_dflt (first | refine notIn_no (no_empty _) ?_)))
local macro_rules | `(tactic| walk_at "compareOp Eq str str") => `(tactic| (k_here; k_dflt (first | refine eq_yes (by assumption) ?_ | refine eq_no (by assumption) ?_)))
local macro_rules | `(tactic| walk_at "truthy str") => `(tactic| (k_here; k_dflt (first | refine truthy_no (by assumption) ?_ | refine truthy_yes (by assumption) (by assumption) ?_)))
local macro_rules | `(tactic| walk_at "exec Raise some none") => `(tactic| (k_here; (with_reducible show wpAny _ _ (exec (Stmt.Raise (some (Expr.Call (Expr.Name ("ValueError" : Str) _) _ [] _)) none _) _) _ _ _); (with_reducible rename Fr _ _ _ _ => kF); k_dflt (refine' Raise_madeB PySem.F.excCall_ValueError PySem.F.excRaise_ValueError rfl (name_B (v := .type "ValueError") kF ?k1 ?k2 ?k3 ?k4 ?k5 ⟨rfl, ?_⟩); (case k1 => k_asm); (case k2 => k_asm); (case k3 => k_is); (case k4 => boot_by_name); (case k5 => decide))))
local macro_rules | `(tactic| walk_at "leaving ref") => `(tactic| (k_here; k_dflt (refine' leave_raiseS ?k1 (Heap.MadeExc.of ?k0) ?k2 (News.nil) ?_; (case k0 => assumption); (case k1 => assumption); (case k2 => assumption)); intro h' t' R' RK' U'; (try dsimp only at R' U' ⊢)))
theorem rtok_call {w : World} {mean : ExcName → Option Value} {mg mb : Str → Option Value} {d u : Nat} {outer : List Env} {gg : Option (List Code)} {s : Shared} {R : Result → Shared → Prop} {lx ldx sx sdx pb fs : Addr} {kt vt : Nat → Tok} {t1 t2 t3 tn tb tp lt tt : Tok} {buf : Str} {pos : Nat} {ln : Int} {st : LS} {stt : Tok}
   {h₀ : Heap} (X : (hd.heap_39 w.params).In h₀) (T : Top vw loo mean mg mb h₀) (st0 : h₀.StaysIn s.heap) (hd' : d ≤ 480) (hu : u ≤ 300) (hb : buf.length ≤ 100000) (n1 : @Ne Nat lx ldx) (n2 : @Ne Nat lx sx) (n3 : @Ne Nat lx sdx) (n4 : @Ne Nat ldx sx) (n5 : @Ne Nat ldx sdx) (n6 : @Ne Nat sx sdx)
   (hN0 : ∀ p ∈ lexN w.params kt vt lx ldx sx sdx pb fs t1 t2 t3 tn tb tp (st.val stt) ln lt (Str.ofString "") tt buf pos, s.heap.get? p.1 = some p.2 ∧ h₀.get? p.1 = none) {o : Option (LS × List Nat × List Nat)} (hI : Inv buf o st (Str.ofString "") pos) {base : Heap} (KB : Below (Ar none d outer gg u) base outer h₀)
   (hok : ∀ h' tk (st' : LS) (stt' tt' lt' tp' tr : Tok) (ln' : Int) (k : Str) (pos' : Nat), o = some (st', cs k, (cs buf).drop pos') → pos' ≤ buf.length → k.length ≤ pos' → KeepBut s.heap h' [lx, ldx, sx, sdx] →
     (∀ p ∈ lexN w.params kt vt lx ldx sx sdx pb fs t1 t2 t3 tn tb tp' (st'.val stt') ln' lt' (Str.ofString "") tt' buf pos', h'.get? p.1 = some p.2) → R (.ok (.ret (.str k tr))) ⟨h', s.gens, s.drawn, tk, s.os⟩)
   (herr : ∀ h' tk e t tk', o = none → RaisedS base h₀ outer e (.type "ValueError") t [.str (Str.ofString "No closing quotation") tk'] [] h' → h₀.UpToSlots h' → R (.error (.ref e)) ⟨h', s.gens, s.drawn, tk, s.os⟩) :
   codeAny (model pg w) (Ar none d outer gg u) (.call (.ref 697) ⟨[.ref lx],[]⟩) R s := by
  w_on
  w_strict (
    (refine' enterM (binds := [(Str.ofString "self", Value.ref lx)]) X (Top.nolimit T) st0 hN0 ?k6 ?k7 ?k8 ?k9 ?kB ?_ ?c2 ?c3 ?c4 ?c5; (case k6 => k_is); (case k7 => k_is); (case k8 => (simp only [recursionLimit]; omega)); (case k9 => first | exact BindsTo.of_eq rfl | exact binds_K (Frag.In.keeps X st0) rfl (by k_is) rfl rfl rfl); (case c5 => decide); (case kB => exact locs rfl); (case c2 => exact rfl); (case c3 => exact rfl); (case c4 => exact rfl); (try dsimp only [f46, f60, f87, f364, f371, f378, f540, f653, f660, f690, f697, f719, f726, f741, f748, f753, f758, f765, f772, f779, f784, f789, f794]))
    intro g h' stg hk F N
    have Xg := X.keeps stg
    have Tg := T.keeps stg
    have KG := below_mono KB stg
    clear X T hN0 st0 KB
    k_unmd
    k_fold
    (repeat' (first | (k_unfold; (try dsimp only)) | ((fail_if_success (with_reducible show wpAny _ _ (exec (Stmt.While _ _ _ _) _) _ _ _)); first | walk1 | (dsimp only; walk1)) | fail "no step"))
    (rename Fr _ _ _ _ => Fz)
    (rename News _ _ _ _ => Nz)
    refine whileX2 (LoopJ w.params kt vt lx ldx sx sdx pb fs t1 t2 t3 tn tb buf o) (LoopJ2 w.params kt vt lx ldx sx sdx pb fs t1 t2 t3 tn tb buf o) (LoopD w.params kt vt lx ldx sx sdx pb fs t1 t2 t3 tn tb buf o) Fz Nz ⟨st, stt, lt, tt, tp, _, ln, _, pos, none, false, frm0 lx _, rfl, rfl, hI⟩ ?turn ?turn2 ?done ?hE
    case hE => passes_own
    case turn =>
      clear hI Fz Nz
      rintro n m₁ news₁ h₁ tk₁ F₁ N₁ ⟨st, stt, lt, tt, tp, te, ln, tok, pos, nc, b, rfl, rfl, rfl, hI⟩
      k_unmd
      k_fold
      (try delta frm at F₁)
      (try delta lexN at N₁)
      generalize hsv : st.val stt = stv at N₁
      have hpos := hI.1
      k_steps
      all_goals (subst hsv)
      · exact PreEnd.mk' (by assumption) (by assumption) (J2_end hI (by assumption))
      · exact PreEnd.mk' (by assumption) (by assumption) (J2_sign hI (by assumption))
      · exact PreEnd.mk' (by assumption) (by assumption) (J2_sign hI (by assumption))
    case turn2 =>
      clear hI Fz Nz
      rintro n m₁ news₁ h₁ tk₁ F₁ N₁ ⟨st, stt, lt, tt, tp, te, tz, ln, tok, z, pos, pos', b, rfl, rfl, rfl, hz, hI⟩
      have hpos := hI.1
      have htl : tok.length ≤ 100001 := Nat.le_trans hI.2.1 (by omega)
      k_unmd
      k_fold
      (try delta frm at F₁)
      (try delta lexN at N₁)
      rcases hz with ⟨rfl, he, rfl⟩ | ⟨c, rfl, hc, rfl⟩
      · have hz0 : cs (Str.ofString "") = [] := by decide +kernel
        cases st with
        | non =>
          dsimp only [LS.val] at N₁
          k_steps
          exact TurnW.bk (by assumption) (by assumption) ⟨.non, stt, lt, _, tp, te, ln, _, _, _, b, rfl, rfl, D_non_eof hI⟩
        | sp =>
          dsimp only [LS.val] at N₁
          k_steps
          exact TurnW.bk (by assumption) (by assumption) ⟨.non, stt, lt, _, tp, te, ln, _, _, _, b, rfl, rfl, D_sp_eof hI he⟩
        | a =>
          dsimp only [LS.val] at N₁
          k_steps
          exact TurnW.bk (by assumption) (News.tl (by assumption)) ⟨.non, stt, lt, _, tp, te, ln, _, _, _, b, rfl, rfl, D_a_eof hI he⟩
        | q e =>
          dsimp only [LS.val] at N₁
          have he1 := (q_iff e).mpr hI.2.2.2.1
          have he2 := q_nosp hI.2.2.2.1
          k_steps
          exact herr _ _ _ _ _ (q_eof hI he) (raisedS_mono stg (by assumption)) (upSlots_mono stg (by assumption))
      · have hz1 : cs ⟨#[c]⟩ ≠ [] := List.cons_ne_nil _ _
        have hz2 : (⟨#[c]⟩ : Str).length ≤ 100001 := Nat.le_add_left 1 100000
        have hlt := lt_of_c hc
        cases st with
        | non => exact absurd hI.2.2.2 (Nat.ne_of_lt hlt)
        | sp =>
          dsimp only [LS.val] at N₁
          have ht0 : cs tok = [] := hI.2.2.2
          by_cases hws : c ∈ cs (Str.ofString " \t\r\n")
          · k_steps
            exact TurnW.ct (by assumption) (by assumption) (by omega) ⟨.sp, stt, lt, tt, tp, te, ln, tok, pos + 1, _, b, rfl, rfl, rfl, Inv_sp_ws hI hc hws⟩
          · by_cases hwd : c ∈ cs (Str.ofString "abcdfeghijklmnopqrstuvwxyzABCDEFGHIJKLMNOPQRSTUVWXYZ0123456789_")
            · have hq : ¬ c ∈ cs (Str.ofString "'\"") := word_noq hwd
              k_steps
              exact TurnW.on (by assumption) (by assumption) (by omega) ⟨.a, _, lt, _, tp, te, ln, _, pos + 1, _, b, rfl, rfl, rfl, Inv_sp_a hI hc hws hq⟩
            · by_cases hq : c ∈ cs (Str.ofString "'\"")
              · k_steps
                exact TurnW.on (by assumption) (by assumption) (by omega) ⟨.q c, _, lt, _, tp, te, ln, _, pos + 1, _, b, rfl, rfl, rfl, Inv_sp_q hI hc hws hq⟩
              · k_steps
                exact TurnW.on (by assumption) (by assumption) (by omega) ⟨.a, _, lt, _, tp, te, ln, _, pos + 1, _, b, rfl, rfl, rfl, Inv_sp_a hI hc hws hq⟩
        | a =>
          dsimp only [LS.val] at N₁
          have ht0 : cs tok ≠ [] := hI.2.2.2
          by_cases hws : c ∈ cs (Str.ofString " \t\r\n")
          · k_steps
            exact TurnW.bk (by assumption) (News.tl (by assumption)) ⟨.sp, _, lt, tt, tp, te, ln, tok, pos + 1, _, b, rfl, rfl, D_a_end hI hc hws⟩
          · by_cases hwd : c ∈ cs (Str.ofString "abcdfeghijklmnopqrstuvwxyzABCDEFGHIJKLMNOPQRSTUVWXYZ0123456789_")
            · k_steps
              exact TurnW.on (by assumption) (News.tl (by assumption)) (by omega) ⟨.a, _, lt, _, tp, te, ln, _, pos + 1, _, b, rfl, rfl, rfl, Inv_a_on hI hc hws⟩
            · by_cases hq : c ∈ cs (Str.ofString "'\"")
              · k_steps
                exact TurnW.on (by assumption) (News.tl (by assumption)) (by omega) ⟨.a, _, lt, _, tp, te, ln, _, pos + 1, _, b, rfl, rfl, rfl, Inv_a_on hI hc hws⟩
              · k_steps
                exact TurnW.on (by assumption) (by assumption) (by omega) ⟨.a, _, lt, _, tp, te, ln, _, pos + 1, _, b, rfl, rfl, rfl, Inv_a_on hI hc hws⟩
        | q e =>
          dsimp only [LS.val] at N₁
          have he1 := (q_iff e).mpr hI.2.2.2.1
          have he2 := q_nosp hI.2.2.2.1
          by_cases hce : c = e
          · subst hce
            have he3 := one_self c
            k_steps
            exact TurnW.bk (Fr.q (by assumption)) (by assumption) ⟨.sp, _, lt, _, tp, te, ln, _, pos + 1, _, true, rfl, rfl, D_q_end hI hc⟩
          · have he3 := one_ne hce
            k_steps
            exact TurnW.on (Fr.q (by assumption)) (by assumption) (by omega) ⟨.q e, _, lt, _, tp, te, ln, _, pos + 1, _, true, rfl, rfl, rfl, Inv_q_on hI hc hce⟩
    case done =>
      clear hI Fz Nz
      rintro h₁ tk₁ m₁ news₁ F₁ N₁ ⟨st', stt', lt', tt', tp', te', ln', tok', pos', nc', b', rfl, rfl, hp1, hp2, ho⟩
      k_unmd
      (try delta frm at F₁)
      (try delta lexN at N₁)
      generalize hsv : st'.val stt' = stv at N₁
      k_steps
      subst hsv
      exact hok _ _ st' stt' _ lt' tp' _ ln' tok' pos' ho hp1 hp2 (fun b o e hb => Fr.keep (by assumption) b o (hk b o e hb)) (fun p hp => News.get (by assumption) hp))
end Mine

/-! part D4 -/
namespace Mine

section
variable {prog : Program} {w : World} {A : Around} {E : Value → Shared → Prop} {Q : Flow → Shared → Prop} {s : Shared} {env : Env}
/-- a while whose one turn returns, or that is not entered -/
theorem while_once {test : Expr} {body : List Stmt} {pos : Pos}
    (h : wpAny (model prog w) A (isTrue test env (eval test env)) (fun b s₂ => if b = true then wpAny (model prog w) A (execs body env) (fun f s₃ => match f with | .ret v => Q (.ret v) s₃ | _ => False) E s₂ else Q .next s₂) E s)
    (hE : PassesOwn (model prog w) A env E) : wpAny (model prog w) A (exec (.While test body [] pos) env) Q E s := by
  refine wpAny_While (codeAny_whileLoop (fun n s' => s' = s) ?_ 0 rfl)
  rintro n s' rfl
  refine wpAny_mono h (fun b s₂ h₂ => ?_) hE
  cases b with
  | false =>
    simp only [Bool.false_eq_true, if_false] at h₂ ⊢
    exact wpAny_execs_nil h₂
  | true =>
    simp only [if_true] at h₂ ⊢
    refine wpAny_mono h₂ (fun f s₃ h₃ => ?_) hE
    cases f with
    | ret v => exact h₃
    | _ => exact h₃.elim
end
section
variable {A : Around} {base g h h' : Heap} {outer : List Env} {L a : Addr} {m : Str → Option Value} {news news' : List (Addr × Obj)} {name : Str} {scope : Scope} {cd : Value}
theorem hide_get {b : Addr} {o : Obj} (N : News g L h news) (e : g.get? b = some o) : b ∉ news.map (·.1) := fun hm => by
  obtain ⟨p, hp, rfl⟩ := List.mem_map.mp hm
  rw [(N p hp).2.2] at e; cases e
theorem hide_stays (F : Fr g L h m) (N : News g L h news) : g.StaysIn (hideAll h (news.map (·.1))) := fun b o e => hideAll_get _ (F.keep b o e) (hide_get N e)
theorem hide_back : (hideAll h (news.map (·.1))).StaysIn h := fun _ _ e => of_hideAll _ e
theorem hide_own (N : News g L h news) : ∀ p ∈ news, h.get? p.1 = some p.2 ∧ (hideAll h (news.map (·.1))).get? p.1 = none := fun p hp => ⟨(N p hp).1, hideAll_none _ (List.mem_map_of_mem hp)⟩
theorem hide_fr (F : Fr g L h m) (N : News g L h news) : Fr g L (hideAll h (news.map (·.1))) m :=
  ⟨F.ns.at' fun o e => hideAll_get _ e fun hm => by
    obtain ⟨p, hp, e⟩ := List.mem_map.mp hm
    exact (N p hp).2.1 e, hide_stays F N, F.above⟩
theorem hide_below (K : Below A base outer g) (F : Fr g L h m) (N : News g L h news) (hk : scope.kind = .function) : Below (A.deeper (envOf name scope L a cd)) base (envOf name scope L a cd :: outer) (hideAll h (news.map (·.1))) :=
  K.push (hide_fr F N) hk
theorem back_fr (F : Fr g L h m) (N : News g L h news) (kb : KeepBut h h' (news.map (·.1))) : Fr g L h' m :=
  ⟨F.ns.at' fun o e => kb _ _ e fun hm => by
    obtain ⟨p, hp, e⟩ := List.mem_map.mp hm
    exact (N p hp).2.1 e, fun b o e => kb b o (F.keep b o e) (hide_get N e), F.above⟩
theorem back_news (N : News g L h news) (hp : ∀ p ∈ news', h'.get? p.1 = some p.2) (he : news'.map (·.1) = news.map (·.1)) : News g L h' news' := fun p hq => by
  have : p.1 ∈ news.map (·.1) := he ▸ List.mem_map_of_mem hq
  obtain ⟨q, hq', e⟩ := List.mem_map.mp this
  exact ⟨hp p hq, e ▸ (N q hq').2⟩
end
local macro_rules | `(tactic| walk_at "truthy ref") => `(tactic| (k_here; k_dflt (refine truthy_deque (Fr.keep (by assumption) _ _ (by assumption)) ?_)))
local macro_rules | `(tactic| walk_at "compareOp Eq str str") => `(tactic| (k_here; k_dflt (first | refine eq_yes (by assumption) ?_ | refine eq_no (by assumption) ?_)))
local macro_rules | `(tactic| walk_at "exec While Compare cons nil") => `(tactic| (k_here; k_dflt (refine while_once ?_ (by passes_own))))
theorem gtok_call {w : World} {mean : ExcName → Option Value} {mg mb : Str → Option Value} {d u : Nat} {outer : List Env} {gg : Option (List Code)} {s : Shared} {R : Result → Shared → Prop} {lx ldx sx sdx pb fs : Addr} {kt vt : Nat → Tok} {t1 t2 t3 tn tb tp lt tt : Tok} {buf : Str} {pos : Nat} {ln : Int} {st : LS} {stt : Tok}
   {h₀ : Heap} (X : (hd.heap_39 w.params).In h₀) (T : Top vw loo mean mg mb h₀) (st0 : h₀.StaysIn s.heap) (hd' : d ≤ 470) (hu : u ≤ 250) (hb : buf.length ≤ 100000) (n1 : @Ne Nat lx ldx) (n2 : @Ne Nat lx sx) (n3 : @Ne Nat lx sdx) (n4 : @Ne Nat ldx sx) (n5 : @Ne Nat ldx sdx) (n6 : @Ne Nat sx sdx)
   (hN0 : ∀ p ∈ lexN w.params kt vt lx ldx sx sdx pb fs t1 t2 t3 tn tb tp (st.val stt) ln lt (Str.ofString "") tt buf pos, s.heap.get? p.1 = some p.2 ∧ h₀.get? p.1 = none) {o : Option (LS × List Nat × List Nat)} (hI : Inv buf o st (Str.ofString "") pos) (hpb : h₀.get? pb = some dqObj) (hfs : h₀.get? fs = some dqObj) {base : Heap} (KB : Below (Ar none d outer gg u) base outer h₀)
   (hok : ∀ h' tk (st' : LS) (stt' tt' lt' tp' tr : Tok) (ln' : Int) (k : Str) (pos' : Nat), o = some (st', cs k, (cs buf).drop pos') → pos' ≤ buf.length → k.length ≤ pos' → KeepBut s.heap h' [lx, ldx, sx, sdx] →
     (∀ p ∈ lexN w.params kt vt lx ldx sx sdx pb fs t1 t2 t3 tn tb tp' (st'.val stt') ln' lt' (Str.ofString "") tt' buf pos', h'.get? p.1 = some p.2) → R (.ok (.ret (.str k tr))) ⟨h', s.gens, s.drawn, tk, s.os⟩)
   (herr : ∀ h' tk e t tk', o = none → RaisedS base h₀ outer e (.type "ValueError") t [.str (Str.ofString "No closing quotation") tk'] [] h' → h₀.UpToSlots h' → R (.error (.ref e)) ⟨h', s.gens, s.drawn, tk, s.os⟩) :
   codeAny (model pg w) (Ar none d outer gg u) (.call (.ref 690) ⟨[.ref lx],[]⟩) R s := by
  w_on
  w_strict (
    (refine' enterM (binds := [(Str.ofString "self", Value.ref lx)]) X (Top.nolimit T) st0 hN0 ?k6 ?k7 ?k8 ?k9 ?kB ?_ ?c2 ?c3 ?c4 ?c5; (case k6 => k_is); (case k7 => k_is); (case k8 => (simp only [recursionLimit]; omega)); (case k9 => first | exact BindsTo.of_eq rfl | exact binds_K (Frag.In.keeps X st0) rfl (by k_is) rfl rfl rfl); (case c5 => decide); (case kB => exact locs rfl); (case c2 => exact rfl); (case c3 => exact rfl); (case c4 => exact rfl); (try dsimp only [f46, f60, f87, f364, f371, f378, f540, f653, f660, f690, f697, f719, f726, f741, f748, f753, f758, f765, f772, f779, f784, f789, f794]))
    intro g h' stg hk F N
    have Xg := X.keeps stg
    have Tg := T.keeps stg
    have KG := below_mono KB stg
    have hpb := stg _ _ hpb
    have hfs := stg _ _ hfs
    clear X T hN0 st0 KB
    (try delta lexN at N)
    generalize hsv : st.val stt = stv at N
    k_unmd
    k_fold
    k_steps
    subst hsv
    dsimp only [List.append_nil]
    (rename Fr _ _ _ _ => F2)
    (rename News _ _ _ _ => N2)
    refine wpAny_call (rtok_call (o := o) (st := st) (X := Xg.keeps (hide_stays F2 N2)) (T := Tg.keeps (hide_stays F2 N2)) (st0 := hide_back) (hd' := by (show d + 1 ≤ 480); omega) (hu := by (show u + 3 ≤ 300); omega) (hb := hb) (n1 := n1) (n2 := n2) (n3 := n3) (n4 := n4) (n5 := n5) (n6 := n6) (hN0 := hide_own N2) (hI := hI) (KB := hide_below KG F2 N2 rfl) ?ok ?err)
    case err =>
      intro h'' tk'' e t tk' ho R' U'
      exact leave_onS KG (hide_fr F2 N2) R' U' fun h3 R3 _ U3 => herr _ _ _ _ _ ho (raisedS_mono stg R3) (upSlots_mono stg U3)
    case ok =>
      intro h'' tk'' st' stt' tt' lt' tp' tr ln' k pos' ho hp1 hp2 kb hp
      have F3 := back_fr F2 N2 kb
      have N3 := back_news N2 hp rfl
      clear F2 N2
      (try delta lexN at N3)
      generalize hsv : st'.val stt' = stv at N3
      dsimp only [wants]
      cases hke : (k == Str.ofString "")
      · k_steps
        subst hsv
        exact hok _ _ st' stt' tt' lt' tp' _ ln' k pos' ho hp1 hp2 (fun b o e hb => Fr.keep (by assumption) b o (hk b o e hb)) (fun p hp => News.get (by assumption) hp)
      · have hk2 : k = Str.ofString "" := eq_of_beq hke
        subst hk2
        k_steps
        subst hsv
        exact hok _ _ st' stt' tt' lt' tp' _ ln' _ pos' ho hp1 hp2 (fun b o e hb => Fr.keep (by assumption) b o (hk b o e hb)) (fun p hp => News.get (by assumption) hp))
end Mine

/-! part D5 -/
namespace Mine

theorem iter_call {w : World} {mean : ExcName → Option Value} {mg mb : Str → Option Value} {d u : Nat} {outer : List Env} {gg : Option (List Code)} {s : Shared} {R : Result → Shared → Prop} {lx : Addr}
   (X : (hd.heap_39 w.params).In s.heap) (T : Top vw loo mean mg mb s.heap) (hd' : d ≤ 500) (hu : u ≤ 500)
   (hR : ∀ h' tk, s.heap.StaysIn h' → R (.ok (.ret (.ref lx))) ⟨h', s.gens, s.drawn, tk, s.os⟩) :
   codeAny (model pg w) (Ar none d outer gg u) (.call (.ref 719) ⟨[.ref lx],[]⟩) R s := by
  w_on
  w_strict (
    (refine' enter1 (by assumption) (Top.nolimit (by assumption)) ?k6 ?k7 ?k8 ?k9 ?kB ?_ ?c2 ?c3 ?c4 ?c5; (case k6 => k_is); (case k7 => k_is); (case k8 => (simp only [recursionLimit]; omega)); (case k9 => exact rfl); (case c5 => decide); (case kB => exact rfl); (case c2 => exact rfl); (case c3 => exact rfl); (case c4 => exact rfl); (try dsimp only [f46, f60, f87, f364, f371, f378, f540, f653, f660, f690, f697, f719, f726, f741, f748, f753, f758, f765, f772, f779, f784, f789, f794]))
    intro h' F N
    k_fold
    k_steps
    exact hR _ _ (Fr.keep (by assumption)))
theorem empty_nil : cs (Str.ofString "") = [] := by decide +kernel
theorem cs_ne {k : Str} (h : (k == Str.ofString "") = false) : cs k ≠ [] := fun e => by
  have : k = Str.ofString "" := cs_ext (e.trans empty_nil.symm)
  subst this; simp at h
local macro_rules | `(tactic| walk_at "compareOp Eq str str") => `(tactic| (k_here; k_dflt (first | refine eq_yes (by assumption) ?_ | refine eq_no (by assumption) ?_)))
local macro_rules | `(tactic| walk_at "leaving ref") => `(tactic| (k_here; k_dflt (refine' leave_raiseS ?k1 (Heap.MadeExc.of ?k0) ?k2 (News.nil) ?_; (case k0 => assumption); (case k1 => assumption); (case k2 => assumption)); intro h' t' R' RK' U'; (try dsimp only at R' U' ⊢)))
theorem next_call {w : World} {mean : ExcName → Option Value} {mg mb : Str → Option Value} {d u : Nat} {outer : List Env} {gg : Option (List Code)} {s : Shared} {R : Result → Shared → Prop} {lx ldx sx sdx pb fs : Addr} {kt vt : Nat → Tok} {t1 t2 t3 tn tb tp lt tt : Tok} {buf : Str} {pos : Nat} {ln : Int} {st : LS} {stt : Tok}
   {h₀ : Heap} (X : (hd.heap_39 w.params).In h₀) (T : Top vw loo mean mg mb h₀) (st0 : h₀.StaysIn s.heap) (hd' : d ≤ 460) (hu : u ≤ 200) (hb : buf.length ≤ 100000) (n1 : @Ne Nat lx ldx) (n2 : @Ne Nat lx sx) (n3 : @Ne Nat lx sdx) (n4 : @Ne Nat ldx sx) (n5 : @Ne Nat ldx sdx) (n6 : @Ne Nat sx sdx)
   (hN0 : ∀ p ∈ lexN w.params kt vt lx ldx sx sdx pb fs t1 t2 t3 tn tb tp (st.val stt) ln lt (Str.ofString "") tt buf pos, s.heap.get? p.1 = some p.2 ∧ h₀.get? p.1 = none) {o : Option (LS × List Nat × List Nat)} (hI : Inv buf o st (Str.ofString "") pos) (hpb : h₀.get? pb = some dqObj) (hfs : h₀.get? fs = some dqObj) {base : Heap} (KB : Below (Ar none d outer gg u) base outer h₀)
   (hok : ∀ h' tk (st' : LS) (stt' tt' lt' tp' tr : Tok) (ln' : Int) (k : Str) (pos' : Nat), o = some (st', cs k, (cs buf).drop pos') → cs k ≠ [] → pos' ≤ buf.length → k.length ≤ pos' → KeepBut s.heap h' [lx, ldx, sx, sdx] →
     (∀ p ∈ lexN w.params kt vt lx ldx sx sdx pb fs t1 t2 t3 tn tb tp' (st'.val stt') ln' lt' (Str.ofString "") tt' buf pos', h'.get? p.1 = some p.2) → R (.ok (.ret (.str k tr))) ⟨h', s.gens, s.drawn, tk, s.os⟩)
   (herr : ∀ h' tk e t tk', o = none → RaisedS base h₀ outer e (.type "ValueError") t [.str (Str.ofString "No closing quotation") tk'] [] h' → h₀.UpToSlots h' → R (.error (.ref e)) ⟨h', s.gens, s.drawn, tk, s.os⟩)
   (hstop : ∀ h' tk e t st' pos', o = some (st', [], (cs buf).drop pos') → RaisedS base h₀ outer e (.type "StopIteration") t [] [] h' → h₀.UpToSlots h' → R (.error (.ref e)) ⟨h', s.gens, s.drawn, tk, s.os⟩) :
   codeAny (model pg w) (Ar none d outer gg u) (.call (.ref 726) ⟨[.ref lx],[]⟩) R s := by
  w_on
  w_strict (
    (refine' enterM (binds := [(Str.ofString "self", Value.ref lx)]) X (Top.nolimit T) st0 hN0 ?k6 ?k7 ?k8 ?k9 ?kB ?_ ?c2 ?c3 ?c4 ?c5; (case k6 => k_is); (case k7 => k_is); (case k8 => (simp only [recursionLimit]; omega)); (case k9 => first | exact BindsTo.of_eq rfl | exact binds_K (Frag.In.keeps X st0) rfl (by k_is) rfl rfl rfl); (case c5 => decide); (case kB => exact locs rfl); (case c2 => exact rfl); (case c3 => exact rfl); (case c4 => exact rfl); (try dsimp only [f46, f60, f87, f364, f371, f378, f540, f653, f660, f690, f697, f719, f726, f741, f748, f753, f758, f765, f772, f779, f784, f789, f794]))
    intro g h' stg hk F N
    have Xg := X.keeps stg
    have Tg := T.keeps stg
    have KG := below_mono KB stg
    have hpb := stg _ _ hpb
    have hfs := stg _ _ hfs
    clear X T hN0 st0 KB
    (try delta lexN at N)
    generalize hsv : st.val stt = stv at N
    k_unmd
    k_fold
    (repeat' (first | (k_unfold; (try dsimp only)) | ((fail_if_success (with_reducible first | (show wpAny _ _ (call (Value.ref 690) _) _ _ _) | (show wpAny _ _ (call (Value.ref 690, _).1 _) _ _ _))); first | walk1 | (dsimp only; walk1)) | fail "no step"))
    subst hsv
    dsimp only [List.append_nil]
    (rename Fr _ _ _ _ => F2)
    (rename News _ _ _ _ => N2)
    refine wpAny_call (gtok_call (o := o) (st := st) (X := Xg.keeps (hide_stays F2 N2)) (T := Tg.keeps (hide_stays F2 N2)) (st0 := hide_back) (hd' := by (show d + 1 ≤ 470); omega) (hu := by (show u + 3 ≤ 250); omega) (hb := hb) (n1 := n1) (n2 := n2) (n3 := n3) (n4 := n4) (n5 := n5) (n6 := n6) (hN0 := hide_own N2) (hI := hI) (hpb := hide_stays F2 N2 _ _ hpb) (hfs := hide_stays F2 N2 _ _ hfs) (KB := hide_below KG F2 N2 rfl) ?ok ?err)
    case err =>
      intro h'' tk'' e t tk' ho R' U'
      exact leave_onS KG (hide_fr F2 N2) R' U' fun h3 R3 _ U3 => herr _ _ _ _ _ ho (raisedS_mono stg R3) (upSlots_mono stg U3)
    case ok =>
      intro h'' tk'' st' stt' tt' lt' tp' tr ln' k pos' ho hp1 hp2 kb hp
      have F3 := back_fr F2 N2 kb
      have N3 := back_news N2 hp rfl
      clear F2 N2
      (try delta lexN at N3)
      generalize hsv : st'.val stt' = stv at N3
      dsimp only [wants]
      cases hke : (k == Str.ofString "")
      · k_steps
        subst hsv
        exact hok _ _ st' stt' tt' lt' tp' _ ln' k pos' ho (cs_ne hke) hp1 hp2 (fun b o e hb => Fr.keep (by assumption) b o (hk b o e hb)) (fun p hp => News.get (by assumption) hp)
      · have hk2 : k = Str.ofString "" := eq_of_beq hke
        subst hk2
        rw [empty_nil] at ho
        k_steps
        exact hstop _ _ _ _ _ _ ho (raisedS_mono stg (by assumption)) (upSlots_mono stg (by assumption)))
end Mine

/-! part D6 -/
namespace Mine

section
variable {M : Model} {A : Around} {E : Value → Shared → Prop} {s : Shared} {K : Frag} {x C f : Addr} {ox : Obj} {od : Option Obj}
theorem own_next {Q : Option Value → Shared → Prop} (X : K.In s.heap) (I : InstAt s.heap x ox C od) (hs : findIn K (.ref C) "__next__" = some (some (.ref f))) (hf : isFn K (.ref f) = true)
    (h : wpAny M A (call (.ref f) [.ref x]) (fun v s' => Q (some v) s') (OwitStop M A Q E) s) : wpAny M A (pyNext (.ref x)) Q E s := by
  unfold pyNext
  refine wpAny_bind (wpAny_attempt (special_fn (name := "__next__") (args := []) X I hs (beq_iff_eq.mp hf) (wpAny_mono h (fun v s' hq => ?_) (fun e s' he => ?_))))
  · exact wpAny_pure hq
  · refine wpAny_bind (wpAny_mono he (fun b s₂ hb => ?_) fun _ _ z => z)
    cases b with
    | true => exact wpAny_pure hb
    | false => exact wpAny_throw hb
theorem own_iter {Q : Value → Shared → Prop} (X : K.In s.heap) (I : InstAt s.heap x ox C od) (hs : findIn K (.ref C) "__iter__" = some (some (.ref f))) (hf : isFn K (.ref f) = true)
    (h : wpAny M A (call (.ref f) [.ref x]) (OwitIt M A Q E) E s) : wpAny M A (pyIter (.ref x)) Q E s := by
  have fin : wpAny M A (call (.ref f) [.ref x] >>= fun v => pure (some v)) (fun r s' => ∃ v, r = some v ∧ OwitIt M A Q E v s') E s :=
    wpAny_bind (wpAny_mono h (fun v s' h' => wpAny_pure ⟨v, rfl, h'⟩) fun _ _ z => z)
  have one : ∀ refuse : Sem Value, wpAny M A (callSpecialIfBoundUnlessNone? (.ref x) "__iter__" refuse) (fun r s' => ∃ v, r = some v ∧ OwitIt M A Q E v s') E s := by
    intro refuse
    simp only [callSpecialIfBoundUnlessNone?, bindSpecialIfBound?]
    refine wpAny_holding (wpAny_bind (wpAny_bind (wpAny_bind (I.type.here ((looks_findIn X hs).here ?_)))))
    refine wpAny_bind (wpAny_askSetting (wpAny_ite ?_))
    have fin2 : wpAny M A (if (Value.ref f == Value.none) = true then (refuse >>= fun v => pure (some v)) else (call (.ref f) [.ref x] >>= fun v => pure (some v))) (fun r s' => ∃ v, r = some v ∧ OwitIt M A Q E v s') E s := by
      rw [if_neg (show ¬ ((Value.ref f == Value.none) = true) from Bool.false_ne_true)]
      exact fin
    split
    · exact wpAny_bind ((bind_fn X _ (beq_iff_eq.mp hf)).here (wpAny_pure (by exact fin2)))
    · exact wpAny_tryCatch (wpAny_bind ((bind_fn X _ (beq_iff_eq.mp hf)).here (wpAny_pure (by exact fin2))))
  unfold pyIter
  refine wpAny_bind (wpAny_bind (I.type.here ((looks_findIn X hs).here ?_)))
  show wpAny M A (callSpecialIfBoundUnlessNone? (.ref x) "__iter__" _ >>= _) Q E s
  refine wpAny_bind (wpAny_mono (one _) (fun r s' hr => ?_) fun _ _ z => z)
  obtain ⟨v, rfl, hv⟩ := hr
  refine wpAny_bind (wpAny_mono hv (fun r s₂ hr => ?_) fun _ _ z => z)
  cases r with
  | none => exact hr.elim
  | some g => exact wpAny_pure hr
theorem own_it {Q : Value → Shared → Prop} {g : Value} (X : K.In s.heap) (I : InstAt s.heap x ox C od) (hs : findIn K (.ref C) "__next__" = some (some g)) (h : Q (.ref x) s) : OwitIt M A Q E (.ref x) s := by
  unfold OwitIt
  exact wpAny_bind (I.type.here ((looks_findIn X hs).here h))
end
/-- what a raise leaves of a ground: all but the frames, and those up to their slots -/
def KU (fs : List Addr) (G h : Heap) : Prop := (∀ b o, G.get? b = some o → b ∉ fs → h.get? b = some o) ∧ G.UpToSlots h
theorem KU.mono {fs : List Addr} {G G' h : Heap} (st : G.StaysIn G') (k : KU fs G' h) : KU fs G h := ⟨fun b o e => k.1 b o (st b o e), upSlots_mono st k.2⟩
theorem raised_KU {base G h : Heap} {l : List Env} {e t : Addr} {cls : Value} {vs : List Value} (R : RaisedS base G l e cls t vs [] h) (U : G.UpToSlots h) : KU (l.filterMap (·.frame)) G h := by
  obtain ⟨⟨B, a1, a2, a3, a4, a5⟩, a6⟩ := R
  exact ⟨fun b o e hb => a4.1 b o (a2 b o e hb), U⟩
theorem stop_here {M : Model} {A : Around} {E : Value → Shared → Prop} {Q : Option Value → Shared → Prop} {base G : Heap} {l : List Env} {e t : Addr} {X : String} {vs : List Value} {s : Shared} {b : Bool} (R : RaisedS base G l e (.type X) t vs [] s.heap)
    (hsub : isSubtype (.type X) (.type "StopIteration") = pure b) (k : if b = true then Q none s else E (.ref e) s) : OwitStop M A Q E (.ref e) s := by
  obtain ⟨⟨B, hB, _, _, hfl, _⟩, _⟩ := R
  obtain ⟨ob, hob, hobc⟩ := (flyingW_base hB hfl).there
  have hT : s.TypeIs (.ref e) X := (show ∃ o, s.heap.get? e = some o ∧ o.cls = .type X from ⟨ob, hob, hobc⟩)
  unfold OwitStop
  exact wpAny_isInstance hT hsub k
theorem stop_sub : isSubtype (.type "StopIteration") (.type "StopIteration") = pure true := by rw [isSubtype_type]; kernel_rfl
theorem value_sub : isSubtype (.type "ValueError") (.type "StopIteration") = pure false := by rw [isSubtype_type]; kernel_rfl
abbrev lexA (lx ldx sx sdx : Addr) : List Addr := [lx, ldx, sx, sdx]
theorem lex_inst {P : Params} {kt vt : Nat → Tok} {lx ldx sx sdx pb fs : Addr} {t1 t2 t3 tn tb tp lt tt : Tok} {stv : Value} {ln : Int} {tok buf : Str} {pos : Int} {h : Heap}
    (hN : ∀ p ∈ lexN P kt vt lx ldx sx sdx pb fs t1 t2 t3 tn tb tp stv ln lt tok tt buf pos, h.get? p.1 = some p.2) : InstAt h lx (instObj 729 ldx) 729 (some (dictOf (shEs P kt vt sx pb fs stv ln lt tok tt) 19)) :=
  ⟨hN _ (.head _), rfl, rfl, hN _ (.tail _ (.head _))⟩
theorem snoc_strs {acc : Array Value} {ys : List Str} {k : Str} {t : Tok} (h : StrsAre acc.toList ys) : StrsAre (acc.push (.str k t)).toList (ys ++ [k]) := by
  rw [Array.toList_push]; exact h.append' (.cons _ _ .nil)
section
variable {w : World} {mean : ExcName → Option Value} {mg mb : Str → Option Value} {d u : Nat} {outer : List Env} {gg : Option (List Code)} {R : Result → Shared → Prop}
  {lx ldx sx sdx pb fs S : Addr} {kt vt : Nat → Tok} {t1 t2 t3 tn tb : Tok} {buf : Str} {base G : Heap} {gens drawn os}
theorem lex_loop (X : (hd.heap_39 w.params).In G) (T : Top vw loo mean mg mb G) (hd' : d ≤ 460) (hu : u ≤ 199) (hb : buf.length ≤ 100000) (n1 : @Ne Nat lx ldx) (n2 : @Ne Nat lx sx) (n3 : @Ne Nat lx sdx) (n4 : @Ne Nat ldx sx) (n5 : @Ne Nat ldx sdx) (n6 : @Ne Nat sx sdx)
   (hS : S ∉ lexA lx ldx sx sdx) (hGS : G.get? S = none) (hG : ∀ a ∈ lexA lx ldx sx sdx, G.get? a = none) (hpb : G.get? pb = some dqObj) (hfs : G.get? fs = some dqObj) (KB : Below (Ar none d outer gg u) base outer G) (hSo : S ∉ outer.filterMap (·.frame)) {tot : Option (List (List Nat))}
   (hok : ∀ h' tk acc' c' ys, tot = some (ys.map cs) → StrsAre acc'.toList ys → h'.get? S = some { cls := .type "list", dict := none, data := .seq acc' c', slots := #[] } → KU (outer.filterMap (·.frame)) G h' → R (.ok (.ret .none)) ⟨h', gens, drawn, tk, os⟩)
   (herr : ∀ h' tk e t tk', tot = none → RaisedS base G outer e (.type "ValueError") t [.str (Str.ofString "No closing quotation") tk'] [] h' → G.UpToSlots h' → R (.error (.ref e)) ⟨h', gens, drawn, tk, os⟩) :
   ∀ (n : Nat) (h : Heap) (tk : Nat) (st : LS) (stt lt tt tp : Tok) (ln : Int) (pos : Nat) (acc : Array Value) (c : Nat) (dn : List Str), ((cs buf).drop pos).length < n → (st = .sp ∨ st = .non) →
     G.StaysIn h → h.get? S = some { cls := .type "list", dict := none, data := .seq acc c, slots := #[] } → (∀ p ∈ lexN w.params kt vt lx ldx sx sdx pb fs t1 t2 t3 tn tb tp (st.val stt) ln lt (Str.ofString "") tt buf pos, h.get? p.1 = some p.2) →
     Inv buf (rt st [] ((cs buf).drop pos)) st (Str.ofString "") pos → StrsAre acc.toList dn → dn.length + n ≤ 200000 → (Mine.lx st [] ((cs buf).drop pos)).map (dn.map cs ++ ·) = tot →
     codeAny (model pg w) (Ar none d outer gg u) (.builtin "list.extend.loop" ⟨[.ref S, .ref lx, .none], []⟩) R ⟨h, gens, drawn, tk, os⟩ := by
  have f1 : findIn (hd.heap_39 w.params) (.ref 729) "__next__" = some (some (.ref 726)) := by k_is
  have f2 : isFn (hd.heap_39 w.params) (.ref 726) = true := by k_is
  intro n
  induction n with
  | zero => intro h tk st stt lt tt tp ln pos acc c dn hn; exact absurd hn (Nat.not_lt_zero _)
  | succ n ih =>
    intro h tk st stt lt tt tp ln pos acc c dn hn hst hGh hSl hN hI hdn hlen htot
    have hms : ∀ p ∈ lexN w.params kt vt lx ldx sx sdx pb fs t1 t2 t3 tn tb tp (st.val stt) ln lt (Str.ofString "") tt buf pos, p.1 ∈ lexA lx ldx sx sdx := fun p hp => List.mem_map_of_mem (f := fun x : Addr × Obj => x.1) hp
    have hGhh : G.StaysIn (hideAll h (lexA lx ldx sx sdx)) := fun b o e => hideAll_get _ (hGh b o e) fun hm => by rw [hG b hm] at e; cases e
    have hlsok : LsOk st [] ((cs buf).drop pos) := by
      rcases hst with rfl | rfl
      · rfl
      · exact drop_end hI.2.2.2
    have key := rt_lx ((cs buf).drop pos) st [] hlsok
    refine codeAny_builtin F.entry_extend_loop ?_
    rw [Around.under_plainId F.plain_extend_loop _]
    show wpAny _ (Ar none d outer gg (u + 1)) (pyNext (.ref lx) >>= _) _ _ _
    refine wpAny_bind (own_next (X.keeps hGh) (lex_inst hN) f1 f2 (wpAny_call (next_call (o := rt st [] ((cs buf).drop pos)) (st := st) (h₀ := hideAll h (lexA lx ldx sx sdx)) (base := base) (X := X.keeps hGhh) (T := T.keeps hGhh) (st0 := fun _ _ e => of_hideAll _ e) (hd' := hd') (hu := by omega) (hb := hb) (n1 := n1) (n2 := n2) (n3 := n3) (n4 := n4) (n5 := n5) (n6 := n6)
      (hN0 := fun p hp => ⟨hN p hp, hideAll_none _ (hms p hp)⟩) (hI := hI) (hpb := hGhh _ _ hpb) (hfs := hGhh _ _ hfs) (KB := below_mono (Below.in1 KB) hGhh) ?ok ?err ?stop)))
    case stop =>
      intro h' tk' e t st' pos' ho R' U'
      rw [ho] at key
      have hl : Mine.lx st [] ((cs buf).drop pos) = some [] := by simpa using key.2.1
      rw [hl] at htot
      have hku := raised_KU R' U'
      refine stop_here R' stop_sub ?_
      rw [if_pos rfl]
      refine wpAny_pure (hok h' tk' acc c dn (by rw [← htot]; simp) hdn (hku.1 S _ (hideAll_get _ hSl hS) hSo) (hku.mono hGhh))
    case err =>
      intro h' tk' e t tk'' ho R' U'
      rw [ho] at key
      have hl : Mine.lx st [] ((cs buf).drop pos) = none := key
      rw [hl] at htot
      refine stop_here R' value_sub ?_
      rw [if_neg (by decide)]
      exact herr h' tk' e t tk'' htot.symm (raisedS_mono hGhh R') (upSlots_mono hGhh U')
    case ok =>
      intro h' tk' st' stt' tt' lt' tp' tr ln' k pos' ho hk hp1 hp2 kb hp
      rw [ho] at key
      obtain ⟨k1, k2, k3, k4, k5⟩ := key
      rw [if_neg hk] at k2
      have hsp : st = .sp := by
        rcases hst with h | h
        · exact h
        · exact absurd h (k3 hk)
      have hlt := k4 hk hsp
      have hS' : h'.get? S = some { cls := .type "list", dict := none, data := .seq acc c, slots := #[] } := kb _ _ hSl hS
      have hsz : acc.size = dn.length := by rw [← hdn.length]; simp
      show wpAny _ (Ar none d outer gg (u + 1)) (updateSeq S (·.push (.str k tr)) >>= _) _ _ _
      refine wpAny_bind ?_
      refine wpAny_updateSeq hS' rfl (wpAny_pure ⟨plainId_quiet F.plain_extend_loop _, ih _ _ st' stt' lt' tt' tp' ln' pos' (acc.push (.str k tr)) _ (dn ++ [k]) (by omega) ?_ (fun b o e => ?_) (Heap.get?_update_self _ hS' rfl) (fun p hq => ?_) ?_ (snoc_strs hdn) ?_ ?_⟩) ?_ ?_
      · rcases k1 with h | h
        · exact .inl h
        · exact .inr h.1
      · have hbS : S ≠ b := fun q => by rw [← q, hGS] at e; cases e
        exact (Heap.get?_update_other _ _ hbS).trans (kb _ _ (hGh b o e) fun hm => by rw [hG b hm] at e; cases e)
      · have hbS : S ≠ p.1 := fun q => hS (by rw [q]; exact List.mem_map_of_mem (f := fun x : Addr × Obj => x.1) hq)
        exact (Heap.get?_update_other _ _ hbS).trans (hp p hq)
      · refine ⟨hp1, by rw [show (Str.ofString "").length = 0 by decide +kernel]; exact Nat.zero_le _, by rw [empty_nil], ?_⟩
        rcases k1 with rfl | ⟨rfl, h2⟩
        · exact empty_nil
        · have := List.drop_eq_nil_iff.mp h2
          rw [cs_length] at hp1 ⊢
          exact Nat.le_antisymm hp1 this
      · rw [List.length_append, List.length_cons, List.length_nil]; omega
      · rw [← htot, k2]
        cases Mine.lx st' [] ((cs buf).drop pos') with
        | none => rfl
        | some l => simp
      · rw [hsz]; simp only [sizeLine]; omega
      · show (acc.push (.str k tr)).size ≤ sizeLine + 1
        rw [Array.size_push, hsz]; simp only [sizeLine]; omega
end
end Mine

/-! part D7 -/
namespace Mine

section
variable {prog : Program} {w : World} {A : Around} {E : Value → Shared → Prop} {s : Shared} {K : Frag} {x C f g : Addr} {ox : Obj} {od : Option Obj}
theorem own_extend {R : Result → Shared → Prop} {S : Addr} {c₀ : Nat} (X : K.In s.heap) (I : InstAt s.heap x ox C od) (hSx : S ≠ x)
    (f1 : findIn K (.ref C) "__iter__" = some (some (.ref f))) (f2 : isFn K (.ref f) = true) (f5 : findIn K (.ref C) "__len__" = some none) (f6 : findIn K (.ref C) "__length_hint__" = some none)
    (f7 : findIn K (.ref C) "__next__" = some (some (.ref g)))
    (hS : s.heap.get? S = some { cls := .type "list", data := .seq #[] c₀ })
    (hit : ∀ (Q' : Value → Shared → Prop), (∀ h' tk, s.heap.StaysIn h' → Q' (.ref x) ⟨h', s.gens, s.drawn, tk, s.os⟩) → wpAny (model prog w) A.in1 (call (.ref f) [.ref x]) Q' (fun e s' => R (.error e) s') s)
    (loop : ∀ h' tk c', (∀ b o, b ≠ S → s.heap.get? b = some o → h'.get? b = some o) → h'.get? S = some { cls := .type "list", dict := none, data := .seq #[] c', slots := #[] } → codeAny (model prog w) A (.builtin "list.extend.loop" ⟨[.ref S, .ref x, .none], []⟩) R ⟨h', s.gens, s.drawn, tk, s.os⟩) :
    wpAny (model prog w) A.in1 (Builtin.List.listExtendWith (.ref S) (.ref x) .none)
      (fun fin s' => match fin with | .done f => R (.ok f) s' | .again c' => c'.quiet = true ∧ codeAny (model prog w) A c' R s') (fun e s' => R (.error e) s') s := by
  unfold Builtin.List.listExtendWith
  refine wpAny_bind (I.type.here ?_)
  have h1 : Builtin.List.listSameRef (.ref S) (.ref x) = false := by simp [Builtin.List.listSameRef, hSx]
  have h2 : (Value.ref C == Value.type "list") = false := rfl
  have h3 : (Value.ref C == Value.type "tuple") = false := rfl
  simp only [h1, h2, h3, Bool.or_false, Bool.false_eq_true, if_false]
  refine wpAny_bind (own_iter X I f1 f2 (hit _ fun h' tk st => ?_))
  have I' : InstAt h' x ox C od := ⟨st _ _ I.at_, I.cls, I.no, by
    have := I.dict
    revert this
    cases ox.dict <;> cases od <;> intro z
    · exact z
    · exact z
    · exact z
    · exact st _ _ z⟩
  have X' := X.keeps st
  refine own_it X' I' f7 ?_
  refine wpAny_bind (wpAny_holding ?_)
  unfold Builtin.List.listLengthHint
  refine wpAny_bind (wpAny_bind (I'.type.here ((looks_findIn X' f5).here ?_)))
  show wpAny _ A.in1 (specialOf (Value.ref x) (Str.ofString "__length_hint__") >>= _) _ _ _
  refine wpAny_bind (wpAny_bind (I'.type.here ((looks_findIn X' f6).here ?_)))
  refine wpAny_pure ?_
  show wpAny _ A.in1 (rule "list.extend.makes-room" >>= fun _ => Builtin.List.listTouch (.ref S) >>= fun _ =>
    again (.builtin "list.extend.loop" ⟨[.ref S, .ref x, .none], []⟩)) _ _ _
  refine wpAny_bind (wpAny_rule ?_)
  refine wpAny_bind ?_
  show wpAny _ A.in1 (updateSeq S (·.push .none) >>= fun _ => updateSeq S (·.pop)) _ _ _
  have hS' := st _ _ hS
  refine wpAny_bind (wpAny_updateSeq hS' rfl ?_)
  have hS₂ := Heap.get?_update_self (Obj.mapSeq (·.push Value.none)) hS' rfl
  refine wpAny_updateSeq (hz := by seq_fits) hS₂ rfl ?_
  have hS₃ := Heap.get?_update_self (Obj.mapSeq (·.pop)) hS₂ rfl
  refine wpAny_pure ⟨plainId_quiet F.plain_extend_loop _, loop _ _ _ (fun b o hb e => ?_) hS₃⟩
  exact (Heap.get?_update_other _ _ (Ne.symm hb)).trans ((Heap.get?_update_other _ _ (Ne.symm hb)).trans (st _ _ e))
theorem list_own {Q : Value → Shared → Prop} (X : K.In s.heap) (I : InstAt s.heap x ox C od)
    (f1 : findIn K (.ref C) "__iter__" = some (some (.ref f))) (f2 : isFn K (.ref f) = true) (f5 : findIn K (.ref C) "__len__" = some none) (f6 : findIn K (.ref C) "__length_hint__" = some none)
    (f7 : findIn K (.ref C) "__next__" = some (some (.ref g)))
    (hit : ∀ (s₂ : Shared) (Q' : Value → Shared → Prop) (E' : Value → Shared → Prop), s.heap.StaysIn s₂.heap → (∀ h' tk, s₂.heap.StaysIn h' → Q' (.ref x) ⟨h', s₂.gens, s₂.drawn, tk, s₂.os⟩) → wpAny (model prog w) A.in1.in1 (call (.ref f) [.ref x]) Q' E' s₂)
    (loop : ∀ h' tk c' (R : Result → Shared → Prop), s.heap.StaysIn h' → h'.get? s.heap.objs.size = some { cls := .type "list", dict := none, data := .seq #[] c', slots := #[] } →
      (∀ s', Q (.ref s.heap.objs.size) s' → R (.ok (.ret .none)) s') → (∀ e s', E e s' → R (.error e) s') → codeAny (model prog w) A.in1 (.builtin "list.extend.loop" ⟨[.ref s.heap.objs.size, .ref x, .none], []⟩) R ⟨h', s.gens, s.drawn, tk, s.os⟩) :
    wpAny (model prog w) A (call (.type "list") [.ref x]) Q E s := by
  have hnS := none_size s.heap
  have hSx : s.heap.objs.size ≠ x := fun e => by have := I.at_; rw [← e, hnS] at this; cases this
  refine callType_codes (Q₁ := fun obj s₁ => obj = .ref s.heap.objs.size ∧ s₁ = { s with heap := s.heap.push { cls := .type "list", data := .seq #[] } }) F.called_list (F.typeCall_list_1 _) F.entry_list_init
    (code_list_new _ ⟨rfl, rfl⟩) fun obj s₁ h₁ => ?_
  obtain ⟨rfl, rfl⟩ := h₁
  have hS : (s.heap.push { cls := .type "list", data := .seq #[] }).get? s.heap.objs.size = some { cls := .type "list", data := .seq #[] } := Heap.get?_push_size _ rfl
  refine ⟨⟨_, hS, rfl⟩, F.args_list_init_2 _ _, ?_⟩
  show wpAny _ A.in1.in1 (do let old ← Builtin.List.listItems (.ref s.heap.objs.size); Builtin.List.listUpdate (.ref s.heap.objs.size) (fun _ => #[]); letGo old.toList.reverse; Builtin.List.listExtendWith (.ref s.heap.objs.size) (.ref x) .none) _ _ _
  refine wpAny_bind ?_
  unfold Builtin.List.listItems
  refine wpAny_bind (wpAny_seqItems hS rfl (wpAny_pure ?_))
  show wpAny _ A.in1.in1 (updateSeq s.heap.objs.size (fun _ => #[]) >>= fun _ => letGo (#[] : Array Value).toList.reverse >>= fun _ => Builtin.List.listExtendWith (.ref s.heap.objs.size) (.ref x) .none) _ _ _
  refine wpAny_bind (wpAny_updateSeq hS rfl ?_)
  have hS₂ := Heap.get?_update_self (Obj.mapSeq (fun _ => (#[] : Array Value))) hS rfl
  have oth : ∀ b o, s.heap.get? b = some o → ((s.heap.push { cls := .type "list", data := .seq #[] }).update s.heap.objs.size (Obj.mapSeq (fun _ => (#[] : Array Value)))).get? b = some o :=
    fun b o e => (Heap.get?_update_other _ _ (fun q => by rw [← q, hnS] at e; cases e)).trans (Heap.get?_push_of_some _ e)
  refine wpAny_bind (wpAny_letGo ?_)
  have I2 : InstAt ((s.heap.push { cls := .type "list", data := .seq #[] }).update s.heap.objs.size (Obj.mapSeq (fun _ => (#[] : Array Value)))) x ox C od := ⟨oth _ _ I.at_, I.cls, I.no, by
    have := I.dict
    revert this
    cases ox.dict <;> cases od <;> intro z
    · exact z
    · exact z
    · exact z
    · exact oth _ _ z⟩
  refine own_extend (K := K) (X.keeps oth) I2 hSx f1 f2 f5 f6 f7 hS₂ (fun Q' hq => hit _ Q' _ oth hq) fun h' tk c' keep hS' => ?_
  exact loop h' tk c' _ (fun b o e => keep b o (fun q => by rw [q, hnS] at e; cases e) (oth b o e)) hS' (fun s' hq => ⟨rfl, hq⟩) (fun e s' hq => hq)
end
end Mine

/-! part D8 -/
namespace Mine

section
variable {w : World} {mean : ExcName → Option Value} {mg mb : Str → Option Value} {d u : Nat} {outer : List Env} {gg : Option (List Code)} {s : Shared} {Q : Value → Shared → Prop} {E : Value → Shared → Prop}
  {lx ldx sx sdx pb fs : Addr} {kt vt : Nat → Tok} {t1 t2 t3 tn tb tp lt tt stt : Tok} {ln : Int} {buf : Str} {base : Heap}
theorem list_lex (X : (hd.heap_39 w.params).In (hideAll s.heap (lexA lx ldx sx sdx))) (T : Top vw loo mean mg mb (hideAll s.heap (lexA lx ldx sx sdx))) (hd' : d ≤ 460) (hu : u ≤ 190) (hb : buf.length ≤ 100000) (n1 : @Ne Nat lx ldx) (n2 : @Ne Nat lx sx) (n3 : @Ne Nat lx sdx) (n4 : @Ne Nat ldx sx) (n5 : @Ne Nat ldx sdx) (n6 : @Ne Nat sx sdx)
   (hpb : (hideAll s.heap (lexA lx ldx sx sdx)).get? pb = some dqObj) (hfs : (hideAll s.heap (lexA lx ldx sx sdx)).get? fs = some dqObj) (KB : Below (Ar none d outer gg u) base outer (hideAll s.heap (lexA lx ldx sx sdx)))
   (hN : ∀ p ∈ lexN w.params kt vt lx ldx sx sdx pb fs t1 t2 t3 tn tb tp (LS.sp.val stt) ln lt (Str.ofString "") tt buf ((0 : Nat) : Int), s.heap.get? p.1 = some p.2)
   (hok : ∀ h' tk D (vs : List Value) n ys, Mine.lx .sp [] (cs buf) = some (ys.map cs) → StrsAre vs ys → s.heap.get? D = none → h'.get? D = some (W.listOf vs.toArray n) → KU (outer.filterMap (·.frame)) (hideAll s.heap (lexA lx ldx sx sdx)) h' → Q (.ref D) ⟨h', s.gens, s.drawn, tk, s.os⟩)
   (herr : ∀ h' tk e t tk', Mine.lx .sp [] (cs buf) = none → RaisedS base (hideAll s.heap (lexA lx ldx sx sdx)) outer e (.type "ValueError") t [.str (Str.ofString "No closing quotation") tk'] [] h' → (hideAll s.heap (lexA lx ldx sx sdx)).UpToSlots h' → E (.ref e) ⟨h', s.gens, s.drawn, tk, s.os⟩) :
   wpAny (model pg w) (Ar none d outer gg u) (call (.type "list") [.ref lx]) Q E s := by
  have f1 : findIn (hd.heap_39 w.params) (.ref 729) "__next__" = some (some (.ref 726)) := by k_is
  have f3 : findIn (hd.heap_39 w.params) (.ref 729) "__iter__" = some (some (.ref 719)) := by k_is
  have f4 : isFn (hd.heap_39 w.params) (.ref 719) = true := by k_is
  have f5 : findIn (hd.heap_39 w.params) (.ref 729) "__len__" = some none := by k_is
  have f6 : findIn (hd.heap_39 w.params) (.ref 729) "__length_hint__" = some none := by k_is
  have hback : (hideAll s.heap (lexA lx ldx sx sdx)).StaysIn s.heap := fun _ _ e => of_hideAll _ e
  have hnS := none_size s.heap
  have hlive : ∀ a ∈ lexA lx ldx sx sdx, ∃ o, s.heap.get? a = some o := fun a ha => by
    have : a ∈ (lexN w.params kt vt lx ldx sx sdx pb fs t1 t2 t3 tn tb tp (LS.sp.val stt) ln lt (Str.ofString "") tt buf ((0 : Nat) : Int)).map (·.1) := ha
    obtain ⟨p, hp, rfl⟩ := List.mem_map.mp this
    exact ⟨_, hN p hp⟩
  have hSA : s.heap.objs.size ∉ lexA lx ldx sx sdx := fun hm => by
    obtain ⟨o, ho⟩ := hlive _ hm
    rw [hnS] at ho; cases ho
  have hGS : (hideAll s.heap (lexA lx ldx sx sdx)).get? s.heap.objs.size = none := none_back hback hnS
  have hSo : s.heap.objs.size ∉ outer.filterMap (·.frame) := fun hm => by
    obtain ⟨o, ho, _⟩ := (KB.frames.mem hm).2
    rw [hGS] at ho; cases ho
  refine list_own (X.keeps hback) (lex_inst hN) f3 f4 f5 f6 f1 (fun s₂ Q' E' st hq => wpAny_call (iter_call ((X.keeps hback).keeps st) ((T.keeps hback).keeps st) (by (show d ≤ 500); omega) (by (show u + 1 + 1 ≤ 500); omega) fun h' tk st' => hq h' tk st')) ?_
  intro h' tk c' R st hS hR hE
  refine lex_loop (tot := Mine.lx .sp [] (cs buf)) (G := hideAll s.heap (lexA lx ldx sx sdx)) (base := base) X T hd' (by (show u + 1 ≤ 199); omega) hb n1 n2 n3 n4 n5 n6 hSA hGS (fun a ha => hideAll_none _ ha) hpb hfs (Below.in1 KB) hSo ?_ ?_ ((cs buf).length + 1) h' tk .sp stt lt tt tp ln 0 #[] c' [] (by simp) (.inl rfl) (fun b o e => st _ _ (hback b o e)) hS (fun p hp => st _ _ (hN p hp)) ?_ .nil ?_ ?_
  · intro h2 tk2 acc2 c2 ys ht hs hg hku
    exact hR _ (hok h2 tk2 _ acc2.toList c2 ys ht hs hnS (by rw [hg]) hku)
  · intro h2 tk2 e t tk' ht R2 U2
    exact hE _ _ (herr h2 tk2 e t tk' ht R2 U2)
  · exact ⟨Nat.zero_le _, by decide +kernel, by rw [empty_nil], empty_nil⟩
  · rw [cs_length] at hb
    show 0 + ((cs buf).length + 1) ≤ 200000
    omega
  · simp
end
end Mine

/-! part E1 -/
namespace Mine

section
variable {prog : Program} {w : World} {A : Around} {K : Frag} {C : Addr} {R : Result → Shared → Prop} {h : Heap} {g : Array GenState} {d : Drawn} {t : Nat} {os : OsState}
/-- object.__new__ on a class whose own maker is object's -/
theorem new_own {oc : Value} {od : Option Addr} {cd : ClassData} {sl : Array (Option Value)} (hC : h.get? C = some ⟨oc, od, .cls cd, sl⟩) (e1 : cd.abstract = false) (e2 : cd.hasDel = false)
    (base : Looks (model prog w) h (Bind.staticBase (.ref C)) (.type "object")) (made : Looks (model prog w) h (Bind.madeBy (.type "object")) (some "object.__new__")) (typ : Looks (model prog w) h (isInstance (.ref C) (.type "type")) true)
    (top : Looks (model prog w) h (isSubtype (.ref C) (.type "object")) true)
    (hq : R (.ok (.ret (.ref (h.objs.size + 1)))) ⟨(h.push emptyDict).push (instObj C h.objs.size), g, d, t, os⟩) :
    codeAny (model prog w) A (.call (.builtin "object.__new__") ⟨[.ref C], []⟩) R ⟨h, g, d, t, os⟩ := by
  have F := PySem.F.objNew
  have here : Looks (model prog w) h (Bind.madeHere "object.__new__" (.ref C)) () := base.andThen (made.andThen (Looks.of_pure (by simp only [Option.map_some, bne_self_eq_false, Bool.false_eq_true, if_false])))
  refine codeAny_call_builtin_code (Code.quiet_builtin _ F.quiet) ?_
  simp only [checkBuiltinCall, F.kind, F.split, F.row]
  have args : Bind.checkArgs "object.__new__" ⟨.hand, "object.__new__", "__new__", .cls, []⟩ ⟨[.ref C], []⟩ = pure () := by kernel_rfl
  rw [args]
  repeat (first | simp only [bne_self_eq_false, Bool.false_eq_true, if_false] | lk)
  refine codeAny_builtin F.entry ?_
  unfold Builtin.«object.__new__»
  have fin : ∀ A', wpAny (model prog w) A' (do
      let d ← if typeHasDict (.ref C) then some <$> alloc { cls := .type "dict", data := .dict #[] } else pure none
      ret (← newObj (.ref C) .plain d)) (fun fin s' => match fin with | .done f => R (.ok f) s' | .again c' => c'.quiet = true ∧ codeAny (model prog w) A c' R s') (fun e s' => R (.error e) s') ⟨h, g, d, t, os⟩ := by
    intro A'
    show wpAny _ _ ((alloc emptyDict >>= fun x => pure (some x)) >>= _) _ _ _
    refine wpAny_bind (wpAny_bind (wpAny_alloc (wpAny_pure (wpAny_bind ?_))))
    show wpAny _ _ (newObjAsIs _ _ _) _ _ _
    unfold newObjAsIs classHasDel
    refine wpAny_bind (wpAny_alloc (wpAny_bind (wpAny_bind (wpAny_load (Heap.get?_push_of_some _ (Heap.get?_push_of_some _ hC)) (wpAny_pure ?_)))))
    rw [e2]
    refine wpAny_pure (wpAny_pure ?_)
    show R _ _
    rw [Heap.size_push]
    exact hq
  repeat (first | simp only [e1, Bool.false_eq_true, if_false] | exact fin _ | lk)

/-- a class whose maker is a def of its own -/
theorem make_own {rest : List Value} {fN fI : Addr} {oc : Value} {od : Option Addr} {cd : ClassData} {sl : Array (Option Value)} (hC : h.get? C = some ⟨oc, od, .cls cd, sl⟩) (e4 : cd.mro.isEmpty = false)
    (call : Looks (model prog w) h (specialOf (.ref C) "__call__") (some (.builtin "type.__call__"))) (typ : Looks (model prog w) h (isInstance (.ref C) (.type "type")) true)
    (made : Looks (model prog w) h (Bind.madeBy (.ref C)) none) (self : Looks (model prog w) h (isSubtype (.ref C) (.ref C)) true)
    (hget : ∀ (A' : Around) (Q' : Value → Shared → Prop) (E' : Value → Shared → Prop), Q' (.ref fN) ⟨h, g, d, t + 1, os⟩ → wpAny (model prog w) A' (getAttr (.ref C) "__new__") Q' E' ⟨h, g, d, t, os⟩)
    (hi : Looks (model prog w) h (typeLookup (.ref C) "__init__") (some (.ref fI)))
    (hb : ∀ self, Looks (model prog w) h (bindSpecial (.ref fI) self) (.ref fI, [self]))
    (hq : ∀ (R₁ : Result → Shared → Prop), (∀ x dx h' tk, h.StaysIn h' → h.get? x = none → h.get? dx = none → x ≠ dx → h'.get? x = some (instObj C dx) → h'.get? dx = some emptyDict →
        (∀ (R₂ : Result → Shared → Prop), (∀ s', R (.ok (.ret (.ref x))) s' → R₂ (.ok (.ret .none)) s') → (∀ e s', R (.error e) s' → R₂ (.error e) s') → codeAny (model prog w) (A.under (.builtin "type.__call__" ⟨.ref C :: rest, []⟩)) (.call (.ref fI) ⟨.ref x :: rest, []⟩) R₂ ⟨h', g, d, tk, os⟩) → R₁ (.ok (.ret (.ref x))) ⟨h', g, d, tk, os⟩) →
      codeAny (model prog w) (A.under (.builtin "type.__call__" ⟨.ref C :: rest, []⟩)) (.call (.ref fN) ⟨.ref C :: rest, []⟩) R₁ ⟨h, g, d, t + 1, os⟩) :
    codeAny (model prog w) A (.call (.ref C) ⟨rest, []⟩) R ⟨h, g, d, t, os⟩ := by
  refine codeAny_of_tree ?_
  show wpAny _ _ (callAny (.ref C) _) _ _ _
  refine nd_load hC ?_
  show wpAny _ _ (callAny.viaDunder (.ref C) _) _ _ _
  unfold callAny.viaDunder
  refine wpAny_bind (call.at ?_)
  dsimp only
  rw [tc_bind]
  refine wpAny_bind (wpAny_pure (wpAny_bind (wpAny_pure ?_)))
  refine wpAny_pure (a := Fin.again (.call (.builtin "type.__call__") ⟨.ref C :: rest, []⟩)) (And.intro rfl ?_)
  refine codeAny_call_builtin_at (Code.quiet_builtin _ (by decide +kernel)) entry_typeCall (check_slot tc_kind tc_split typ (tc_args _ _ _) ?_)
  unfold Builtin.«type.__call__»
  have hm : Looks (model prog w) h (mroOf (.ref C)) cd.mro := ((Looks.ld (part := none) hC).andThen .now).andThen .now
  repeat (first | simp only [e4, Bool.false_eq_true, if_false] | with_reducible refine wpAny_call ?_ | with_reducible refine hget _ _ _ ?_ | lk)
  refine hq _ fun x dx h' tk st hx hdx hne gx gdx hinit => ?_
  have t1 : Looks (model prog w) h' (typeOf (.ref x)) (.ref C) := (Looks.ld gx).andThen .now
  have s1 := self.keeps st
  have i1 := hi.keeps st
  have b1 := (hb (.ref x)).keeps st
  unfold isInstance callSpecial? specialOf
  repeat (first | with_reducible refine wpAny_call ?_ | lk)
  refine hinit _ (fun s' z => ?_) (fun e s' z => z)
  exact wpAny_pure (wpAny_pure z)
end
end Mine

/-! part E2 -/
namespace Mine

section
variable {w : World} {d u : Nat} {outer : List Env} {gg : Option (List Code)} {s : Shared} {K : Frag}
    {R : Result → Shared → Prop} {name qual : Str} {params : Arguments} {body : List Stmt} {scope : Scope} {dV kV doc pm cdv ct oc : Value} {an od : Option Addr} {osl : Array (Option Value)} {f : Addr} {args : Args}
/-- a def with *args and **kwargs -/
theorem enterV {vs : List Value} {x1 x2 x3 : Str} {v1 : Value} (X : K.In s.heap) (hlim : s.heap.NoLimit)
    (ho : K.lookup f = some ⟨oc, od, .func (fnOf name qual params body scope dV kV doc pm an cdv ct), osl⟩) (hcd : codeIn K cdv qual = true) (hroom : d < recursionLimit)
    (hbind : bindArgs (fnOf name qual params body scope dV kV doc pm an cdv ct) args = (newTuple vs >>= fun T => alloc emptyDict >>= fun D => pure [(x1, v1), (x2, T), (x3, .ref D)])) (hvs : vs.length ≤ 1000)
    (h1 : scope.names.lookup x1 = some .local) (h2 : scope.names.lookup x2 = some .local) (h3 : scope.names.lookup x3 = some .local)
    (h : ∀ T D g L h₁, s.heap.StaysIn g → Fr g L h₁ (fun y => [(x3, Value.ref D), (x2, T), (x1, v1)].lookup y) → News g L h₁ [] →
      wpAny (model pg w) ((Ar none d outer gg u).deeper (envOf qual scope L f cdv)) (execs body (envOf qual scope L f cdv))
        (fun fl s' => R (.ok (.ret (match fl with | .ret v => v | _ => .none))) s')
        (fun e s' => wpAny (model pg w) ((Ar none d outer gg u).deeper (envOf qual scope L f cdv)) (leaving (envOf qual scope L f cdv) e) (fun _ s'' => R (.error e) s'') (fun e' s'' => R (.error e') s'') s')
        { s with heap := h₁, toks := s.toks + 3 })
    (hco : scope.isCoroutine = false) (hgen : scope.isGenerator = false) (hk : scope.kind = .function)
    (hcell : ∀ x ∈ scope.names, x.2 ≠ .cell) : codeAny (model pg w) (Ar none d outer gg u) (.call (.ref f) args) R s := by
  refine codeAny_call_function hroom (X _ _ ho) rfl hco hgen rfl (codeRec_of X hcd) ?_
  rw [hbind]
  refine wpAny_bind (wpAny_newTuple ?_ (Nat.le_trans hvs (by decide)))
  refine wpAny_bind (wpAny_alloc (wpAny_pure ?_))
  have st : s.heap.StaysIn ((s.heap.push { cls := .type "tuple", data := .seq vs.toArray }).push emptyDict) := fun b o e => Heap.get?_push_of_some _ (Heap.get?_push_of_some _ e)
  refine wpAny_newFunctionEnv hcell (fun y hy => ?_) (fun h₀ hns₀ hsb₀ => ⟨(hlim.keeps st).fresh _ hsb₀, codeAny_func ?_⟩) hk
  · rcases List.mem_cons.mp hy with rfl | hy
    · exact h1
    · rcases List.mem_cons.mp hy with rfl | hy
      · exact h2
      · rw [List.mem_singleton.mp hy]; exact h3
  · exact h _ _ _ _ h₀ st ⟨hns₀, fun b o e => hsb₀.extBut b o (Nat.ne_of_lt (Heap.lt_size e)) (Heap.get?_push_of_some _ e), Nat.le_refl _⟩ News.nil
end
theorem sb594 {w : World} : peek (hd.heap_39 w.params) ⟨pg, w.params⟩ (Bind.staticBase (.ref 594)) = some (.type "object") := by kernel_rfl
theorem mb594 {w : World} : peek (hd.heap_39 w.params) ⟨pg, w.params⟩ (Bind.madeBy (.ref 594)) = some none := by kernel_rfl
theorem mbobj : Bind.madeBy (.type "object") = pure (some "object.__new__") := madeBy_type (c := .type "object") (tl := []) (by rw [mroOf_type]; kernel_rfl) (by rw [typeLookup_type, builtinLookup_eq_fast]; kernel_rfl) (by decide +kernel)
theorem two_push {C : Addr} {h : Heap} : h.get? (h.objs.size + 1) = none ∧ ((h.push emptyDict).push (instObj C h.objs.size)).get? (h.objs.size + 1) = some (instObj C h.objs.size) ∧ ((h.push emptyDict).push (instObj C h.objs.size)).get? h.objs.size = some emptyDict := by
  refine ⟨?_, ?_, ?_⟩
  · cases q : h.get? (h.objs.size + 1) with
    | none => rfl
    | some o => exact absurd (Heap.lt_size q) (Nat.not_lt_of_ge (Nat.le_succ _))
  · have e : (h.push emptyDict).objs.size = h.objs.size + 1 := Heap.size_push _ _
    rw [← e]; exact Heap.get?_push_size _ rfl
  · exact Heap.get?_push_of_some _ (Heap.get?_push_size _ rfl)
theorem new_call {w : World} {mean : ExcName → Option Value} {mg mb : Str → Option Value} {d u : Nat} {outer : List Env} {gg : Option (List Code)} {s : Shared} {R : Result → Shared → Prop} {x : Str} {t : Tok}
   (X : (hd.heap_39 w.params).In s.heap) (T : Top vw loo mean mg mb s.heap) (hd' : d ≤ 500) (hu : u ≤ 500)
   (hR : ∀ x dx h' tk, s.heap.StaysIn h' → s.heap.get? x = none → s.heap.get? dx = none → x ≠ dx → h'.get? x = some (instObj 594 dx) → h'.get? dx = some emptyDict → R (.ok (.ret (.ref x))) ⟨h', s.gens, s.drawn, tk, s.os⟩) :
   codeAny (model pg w) (Ar none d outer gg u) (.call (.ref 87) ⟨[.ref 594, .str x t],[]⟩) R s := by
  w_on
  w_strict (
    (refine' enterV (vs := [.str x t]) (x1 := Str.ofString "cls") (x2 := Str.ofString "args") (x3 := Str.ofString "kwargs") (v1 := .ref 594) X (Top.nolimit T) ?k6 ?k7 ?k8 ?k9 ?kV ?kB1 ?kB2 ?kB3 ?_ ?c2 ?c3 ?c4 ?c5; (case k6 => k_is); (case k7 => k_is); (case k8 => (simp only [recursionLimit]; omega)); (case k9 => first | kernel_rfl | rfl); (case kV => exact Nat.le_of_ble_eq_true rfl); (case c5 => decide); (case kB1 => exact rfl); (case kB2 => exact rfl); (case kB3 => exact rfl); (case c2 => exact rfl); (case c3 => exact rfl); (case c4 => exact rfl); (try dsimp only [f46, f60, f87, f364, f371, f378, f540, f653, f660, f690, f697, f719, f726, f741, f748, f753, f758, f765, f772, f779, f784, f789, f794]))
    intro TT DD g L h' stg F N
    have Xg := X.keeps stg
    have Tg := T.keeps stg
    k_unmd
    k_fold
    k_steps
    (rename Fr _ _ _ _ => F2)
    have X2 := Xg.keeps F2.keep
    refine' wpAny_call (new_own (X2 _ _ ?hC) ?e1 ?e2 (Looks.of_peek X2 sb594) (Looks.of_pure mbobj) (looks_instIn X2 ?ty) (looks_subIn X2 ?tp) ?_)
    case hC => k_is
    case e1 => rfl
    case e2 => rfl
    case ty => k_is
    case tp => k_is
    have st2 := StaysIn.tr stg F2.keep
    refine hR _ _ _ _ (fun b o e => Heap.get?_push_of_some _ (Heap.get?_push_of_some _ (st2 b o e))) (none_back st2 (two_push (C := 594)).1) (none_back st2 (none_size _)) (fun e => absurd e (Nat.succ_ne_self _)) two_push.2.1 two_push.2.2)
end Mine

/-! part E3 -/
namespace Mine

theorem trans_call {w : World} {mean : ExcName → Option Value} {mg mb : Str → Option Value} {d u : Nat} {outer : List Env} {gg : Option (List Code)} {s : Shared} {R : Result → Shared → Prop} {sx sdx : Addr} {t1 t2 t3 tn tb tp t : Tok} {buf x : Str} {pos : Int}
   {h₀ : Heap} (X : (hd.heap_39 w.params).In h₀) (T : Top vw loo mean mg mb h₀) (st0 : h₀.StaysIn s.heap) (hd' : d ≤ 500) (hu : u ≤ 500)
   (hN0 : ∀ p ∈ [(sx, instObj 594 sdx), (sdx, dictOf (sioEs w.params t1 t2 t3 tn tb tp buf pos) 3)], s.heap.get? p.1 = some p.2 ∧ h₀.get? p.1 = none)
   (hR : ∀ h' tk, KeepBut s.heap h' [sx, sdx] → (∀ p ∈ [(sx, instObj 594 sdx), (sdx, dictOf (sioEs w.params t1 t2 t3 tn tb tp buf pos) 3)], h'.get? p.1 = some p.2) → R (.ok (.ret (.str x t))) ⟨h', s.gens, s.drawn, tk, s.os⟩) :
   codeAny (model pg w) (Ar none d outer gg u) (.call (.ref 371) ⟨[.ref sx, .str x t],[]⟩) R s := by
  w_on
  w_strict (
    (refine' enterM (binds := [(Str.ofString "self", Value.ref sx), (Str.ofString "s", Value.str x t)]) X (Top.nolimit T) st0 hN0 ?k6 ?k7 ?k8 ?k9 ?kB ?_ ?c2 ?c3 ?c4 ?c5; (case k6 => k_is); (case k7 => k_is); (case k8 => (simp only [recursionLimit]; omega)); (case k9 => first | exact BindsTo.of_eq rfl | exact binds_K (Frag.In.keeps X st0) rfl (by k_is) rfl rfl rfl); (case c5 => decide); (case kB => exact locs rfl); (case c2 => exact rfl); (case c3 => exact rfl); (case c4 => exact rfl); (try dsimp only [f46, f60, f87, f364, f371, f378, f540, f653, f660, f690, f697, f719, f726, f741, f748, f753, f758, f765, f772, f779, f784, f789, f794]))
    intro g h' stg hk F N
    have Xg := X.keeps stg
    have Tg := T.keeps stg
    clear X T hN0 st0
    k_unmd
    k_fold
    k_steps
    exact hR _ _ (fun b o e hb => Fr.keep (by assumption) b o (hk b o e hb)) (fun p hp => News.get (by assumption) hp))
local macro_rules | `(tactic| walk_at "call ref") => `(tactic| (k_here; (with_reducible first | (show wpAny _ _ (call (Value.ref 371) _) _ _ _) | (show wpAny _ _ (call (Value.ref 371, _).1 _) _ _ _)); (try dsimp only [List.append_nil, List.cons_append, List.nil_append]); k_dflt (refine wpAny_call (trans_call (by assumption) (by assumption) (Fr.keep (by assumption)) (by dsimp only; omega) (by dsimp only; omega) (fun p hp => ⟨News.get (by assumption) hp, News.fresh (by assumption) hp⟩) ?_); intro h'' tk'' kb'' hp''; (have FF := Fr.back2 (by assumption) (by assumption) kb'' (by k_mem) (by k_mem)); (have NN := News.back2 (rest := []) (by assumption) kb'' (by k_mem) (by k_mem) hp'' (fun _ h => nomatch h)); (try dsimp only); (try k_sweep))))
theorem sinit_call {w : World} {mean : ExcName → Option Value} {mg mb : Str → Option Value} {d u : Nat} {outer : List Env} {gg : Option (List Code)} {s : Shared} {R : Result → Shared → Prop} {sx sdx : Addr} {t : Tok} {x : Str}
   {h₀ : Heap} (X : (hd.heap_39 w.params).In h₀) (T : Top vw loo mean mg mb h₀) (st0 : h₀.StaysIn s.heap) (hd' : d ≤ 490) (hu : u ≤ 400) (hne : @Ne Nat sx sdx)
   (hN0 : ∀ p ∈ [(sx, instObj 594 sdx), (sdx, dictOf [] 0)], s.heap.get? p.1 = some p.2 ∧ h₀.get? p.1 = none)
   (hR : ∀ h' tk t1 t2 t3 tn tp, KeepBut s.heap h' [sx, sdx] → (∀ p ∈ [(sx, instObj 594 sdx), (sdx, dictOf (sioEs w.params t1 t2 t3 tn t tp x ((0 : Nat) : Int)) 3)], h'.get? p.1 = some p.2) → R (.ok (.ret .none)) ⟨h', s.gens, s.drawn, tk, s.os⟩) :
   codeAny (model pg w) (Ar none d outer gg u) (.call (.ref 364) ⟨[.ref sx, .str x t],[]⟩) R s := by
  w_on
  w_strict (
    (refine' enterM (binds := [(Str.ofString "self", Value.ref sx), (Str.ofString "initial_value", Value.str x t), (Str.ofString "newline", Value.str (Str.ofString "\n") 680)]) X (Top.nolimit T) st0 hN0 ?k6 ?k7 ?k8 ?k9 ?kB ?_ ?c2 ?c3 ?c4 ?c5; (case k6 => k_is); (case k7 => k_is); (case k8 => (simp only [recursionLimit]; omega)); (case k9 => first | exact BindsTo.of_eq rfl | exact binds_K (Frag.In.keeps X st0) rfl (by k_is) rfl rfl rfl); (case c5 => decide); (case kB => exact locs rfl); (case c2 => exact rfl); (case c3 => exact rfl); (case c4 => exact rfl); (try dsimp only [f46, f60, f87, f364, f371, f378, f540, f653, f660, f690, f697, f719, f726, f741, f748, f753, f758, f765, f772, f779, f784, f789, f794]))
    intro g h' stg hk F N
    have Xg := X.keeps stg
    have Tg := T.keeps stg
    clear X T hN0 st0
    k_unmd
    k_fold
    k_steps
    exact hR _ _ _ _ _ _ _ (fun b o e hb => Fr.keep (by assumption) b o (hk b o e hb)) (fun p hp => News.get (by assumption) hp))
end Mine

/-! part E4 -/
namespace Mine

theorem sio_make {w : World} {mean : ExcName → Option Value} {mg mb : Str → Option Value} {d u : Nat} {outer : List Env} {gg : Option (List Code)} {s : Shared} {R : Result → Shared → Prop} {x : Str} {t : Tok}
   (X : (hd.heap_39 w.params).In s.heap) (T : Top vw loo mean mg mb s.heap) (hd' : d ≤ 480) (hu : u ≤ 390)
   (hR : ∀ h' tk sx sdx t1 t2 t3 tn tp, s.heap.StaysIn h' → s.heap.get? sx = none → s.heap.get? sdx = none → @Ne Nat sx sdx → h'.get? sx = some (instObj 594 sdx) → h'.get? sdx = some (dictOf (sioEs w.params t1 t2 t3 tn t tp x ((0 : Nat) : Int)) 3) → R (.ok (.ret (.ref sx))) ⟨h', s.gens, s.drawn, tk, s.os⟩) :
   codeAny (model pg w) (Ar none d outer gg u) (.call (.ref 594) ⟨[.str x t],[]⟩) R s := by
  have hA : (Ar none d outer gg u).under (.builtin "type.__call__" ⟨[.ref 594, .str x t], []⟩) = Ar none (d + 1) outer gg (u + 1) := rfl
  obtain ⟨h, gs, dr, tk, os⟩ := s
  refine' make_own (C := 594) (fN := 87) (fI := 364) (X _ _ ?hC) ?e4 (looks_specialIn X ?sp) (looks_instIn X ?ty) (Looks.of_peek X mb594) (looks_subIn X ?sf) ?hget (looks_findIn X ?fi) (fun self => bind_fn X self ?fn) ?hq
  case hC => k_is
  case e4 => rfl
  case sp => k_is
  case ty => k_is
  case sf => k_is
  case fi => k_is
  case fn => k_is
  case hget =>
    intro A' Q' E' hq
    have g1 : readsIn (hd.heap_39 w.params) 594 (.type "type") = true := by k_is
    have g2 : findCls (hd.heap_39 w.params) (.ref 594) (.type "type") "__new__" = some (.get (.builtin "staticmethod.__get__") (.ref 91) .none (.ref 594)) := by k_is
    have g3 : recIn (hd.heap_39 w.params) 91 "staticmethod" = some [.ref 87] := by k_is
    exact cls_bind X g1 g2 (wpAny_call (sm_get (s := ⟨h, gs, dr, tk + 1, os⟩) X g3 (handed_on rfl hq)))
  case hq =>
    intro R₁ h1
    rw [hA]
    rw [hA] at h1
    refine new_call (s := ⟨h, gs, dr, tk + 1, os⟩) X T (by omega) (by omega) fun sx sdx h' tk' st hx hdx hne gx gdx => h1 sx sdx h' tk' st hx hdx hne gx gdx fun R₂ r1 r2 => ?_
    refine sinit_call (h₀ := h) X T st (by omega) (by omega) hne ?_ ?_
    · intro p hp
      rcases List.mem_cons.mp hp with rfl | hp
      · exact ⟨gx, hx⟩
      · rw [List.mem_singleton.mp hp]; exact ⟨gdx, hdx⟩
    · intro h2 tk2 t1 t2 t3 tn tp kb hp
      refine r1 _ (hR h2 tk2 sx sdx t1 t2 t3 tn tp (fun b o e => kb b o (st b o e) fun hm => ?_) hx hdx hne (hp _ (.head _)) (hp _ (.tail _ (.head _))))
      rcases List.mem_cons.mp hm with rfl | hm
      · rw [hx] at e; cases e
      · rw [List.mem_singleton.mp hm, hdx] at e; cases e
end Mine

/-! part E5 -/
namespace Mine

theorem News.add2 {h₀ h h' : Heap} {L : Addr} {m : Str → Option Value} {news : List (Addr × Obj)} {a b : Addr} {o p : Obj} (F : Fr h₀ L h m) (N : News h₀ L h news) (k : h.StaysIn h') (e : h'.get? a = some o) (hf : h.get? a = none) (e2 : h'.get? b = some p) (hf2 : h.get? b = none) : News h₀ L h' ((a, o) :: (b, p) :: news) := by
  have N1 := News.add F N k e hf
  have N2 := News.add F N k e2 hf2
  intro q hq
  rcases List.mem_cons.mp hq with rfl | hq
  · exact N1 _ (.head _)
  · exact N2 q hq
local macro_rules | `(tactic| walk_at "call type:collections.deque") => `(tactic| (k_here; k_dflt (refine call_deque ?_); intro a'' h'' hf'' hg'' st''; (have FF := Fr.on (by assumption) st''); (have hne'' := News.fresh_ne (by assumption) hf''); (try simp only [NeAll, and_true] at hne''); (have NN := News.add (by assumption) (by assumption) st'' hg'' hf''); (try dsimp only); (try k_sweep)))
local macro_rules | `(tactic| walk_at "call ref") => `(tactic| (k_here; (with_reducible show wpAny _ _ (call (Value.ref 594) [Value.str _ _]) _ _ _); k_dflt (refine wpAny_call (sio_make (Frag.In.keeps (by assumption) (Fr.keep (by assumption))) (Top.keeps (by assumption) (Fr.keep (by assumption))) (by dsimp only; omega) (by dsimp only; omega) ?_); intro h'' tk'' sx'' sdx'' t1'' t2'' t3'' tn'' tp'' st'' hfx'' hfd'' hne'' hgx'' hgd''; (have hn1'' := News.fresh_ne (by assumption) hfx''); (have hn2'' := News.fresh_ne (by assumption) hfd''); (try simp only [NeAll, and_true] at hn1'' hn2''); (have FF := Fr.on (by assumption) st''); (have NN := News.add2 (by assumption) (by assumption) st'' hgx'' hfx'' hgd'' hfd''); (try dsimp only); (try k_sweep))))
abbrev shI (P : Params) (kt vt : Nat → Tok) (sx pb fs : Addr) (cm : Str) (ws : Bool) : List DictEntry :=
  [⟨PyData.keyHash P (Str.ofString "instream"), .str (Str.ofString "instream") (kt 0), .ref sx⟩,
   ⟨PyData.keyHash P (Str.ofString "infile"), .str (Str.ofString "infile") (kt 1), .none⟩,
   ⟨PyData.keyHash P (Str.ofString "posix"), .str (Str.ofString "posix") (kt 2), .bool false⟩,
   ⟨PyData.keyHash P (Str.ofString "eof"), .str (Str.ofString "eof") (kt 3), .str (Str.ofString "") (vt 3)⟩,
   ⟨PyData.keyHash P (Str.ofString "commenters"), .str (Str.ofString "commenters") (kt 4), .str cm (vt 4)⟩,
   ⟨PyData.keyHash P (Str.ofString "wordchars"), .str (Str.ofString "wordchars") (kt 5), .str (Str.ofString "abcdfeghijklmnopqrstuvwxyzABCDEFGHIJKLMNOPQRSTUVWXYZ0123456789_") (vt 5)⟩,
   ⟨PyData.keyHash P (Str.ofString "whitespace"), .str (Str.ofString "whitespace") (kt 6), .str (Str.ofString " \t\r\n") (vt 6)⟩,
   ⟨PyData.keyHash P (Str.ofString "whitespace_split"), .str (Str.ofString "whitespace_split") (kt 7), .bool ws⟩,
   ⟨PyData.keyHash P (Str.ofString "quotes"), .str (Str.ofString "quotes") (kt 8), .str (Str.ofString "'\"") (vt 8)⟩,
   ⟨PyData.keyHash P (Str.ofString "escape"), .str (Str.ofString "escape") (kt 9), .str (Str.ofString "\\") (vt 9)⟩,
   ⟨PyData.keyHash P (Str.ofString "escapedquotes"), .str (Str.ofString "escapedquotes") (kt 10), .str (Str.ofString "\"") (vt 10)⟩,
   ⟨PyData.keyHash P (Str.ofString "state"), .str (Str.ofString "state") (kt 11), .str (Str.ofString " ") (vt 11)⟩,
   ⟨PyData.keyHash P (Str.ofString "pushback"), .str (Str.ofString "pushback") (kt 12), .ref pb⟩,
   ⟨PyData.keyHash P (Str.ofString "lineno"), .str (Str.ofString "lineno") (kt 13), .int 1 (vt 13)⟩,
   ⟨PyData.keyHash P (Str.ofString "debug"), .str (Str.ofString "debug") (kt 14), .int 0 (vt 14)⟩,
   ⟨PyData.keyHash P (Str.ofString "token"), .str (Str.ofString "token") (kt 15), .str (Str.ofString "") (vt 15)⟩,
   ⟨PyData.keyHash P (Str.ofString "filestack"), .str (Str.ofString "filestack") (kt 16), .ref fs⟩,
   ⟨PyData.keyHash P (Str.ofString "source"), .str (Str.ofString "source") (kt 17), .none⟩,
   ⟨PyData.keyHash P (Str.ofString "_punctuation_chars"), .str (Str.ofString "_punctuation_chars") (kt 18), .str (Str.ofString "") (vt 18)⟩]
theorem sh_mk {P : Params} {h : Heap} {a sx pb fs : Addr} {k0 k1 k2 k3 k4 k5 k6 k7 k8 k9 k10 k11 k12 k13 k14 k15 k16 k17 k18 v3 v4 v5 v6 v8 v9 v10 v11 v13 v14 v15 v18 : Tok} (e : h.get? a = some (dictOf [⟨PyData.keyHash P (Str.ofString "instream"), .str (Str.ofString "instream") k0, .ref sx⟩,
   ⟨PyData.keyHash P (Str.ofString "infile"), .str (Str.ofString "infile") k1, .none⟩,
   ⟨PyData.keyHash P (Str.ofString "posix"), .str (Str.ofString "posix") k2, .bool false⟩,
   ⟨PyData.keyHash P (Str.ofString "eof"), .str (Str.ofString "eof") k3, .str (Str.ofString "") v3⟩,
   ⟨PyData.keyHash P (Str.ofString "commenters"), .str (Str.ofString "commenters") k4, .str (Str.ofString "#") v4⟩,
   ⟨PyData.keyHash P (Str.ofString "wordchars"), .str (Str.ofString "wordchars") k5, .str (Str.ofString "abcdfeghijklmnopqrstuvwxyzABCDEFGHIJKLMNOPQRSTUVWXYZ0123456789_") v5⟩,
   ⟨PyData.keyHash P (Str.ofString "whitespace"), .str (Str.ofString "whitespace") k6, .str (Str.ofString " \t\r\n") v6⟩,
   ⟨PyData.keyHash P (Str.ofString "whitespace_split"), .str (Str.ofString "whitespace_split") k7, .bool false⟩,
   ⟨PyData.keyHash P (Str.ofString "quotes"), .str (Str.ofString "quotes") k8, .str (Str.ofString "'\"") v8⟩,
   ⟨PyData.keyHash P (Str.ofString "escape"), .str (Str.ofString "escape") k9, .str (Str.ofString "\\") v9⟩,
   ⟨PyData.keyHash P (Str.ofString "escapedquotes"), .str (Str.ofString "escapedquotes") k10, .str (Str.ofString "\"") v10⟩,
   ⟨PyData.keyHash P (Str.ofString "state"), .str (Str.ofString "state") k11, .str (Str.ofString " ") v11⟩,
   ⟨PyData.keyHash P (Str.ofString "pushback"), .str (Str.ofString "pushback") k12, .ref pb⟩,
   ⟨PyData.keyHash P (Str.ofString "lineno"), .str (Str.ofString "lineno") k13, .int 1 v13⟩,
   ⟨PyData.keyHash P (Str.ofString "debug"), .str (Str.ofString "debug") k14, .int 0 v14⟩,
   ⟨PyData.keyHash P (Str.ofString "token"), .str (Str.ofString "token") k15, .str (Str.ofString "") v15⟩,
   ⟨PyData.keyHash P (Str.ofString "filestack"), .str (Str.ofString "filestack") k16, .ref fs⟩,
   ⟨PyData.keyHash P (Str.ofString "source"), .str (Str.ofString "source") k17, .none⟩,
   ⟨PyData.keyHash P (Str.ofString "_punctuation_chars"), .str (Str.ofString "_punctuation_chars") k18, .str (Str.ofString "") v18⟩] 19)) :
   ∃ kt vt, h.get? a = some (dictOf (shI P kt vt sx pb fs (Str.ofString "#") false) 19) :=
  ⟨fun i => [k0, k1, k2, k3, k4, k5, k6, k7, k8, k9, k10, k11, k12, k13, k14, k15, k16, k17, k18].getD i 0, fun i => [0, 0, 0, v3, v4, v5, v6, 0, v8, v9, v10, v11, 0, v13, v14, v15, 0, 0, v18].getD i 0, e⟩
theorem fresh_hid {h g : Heap} {a lx ldx : Addr} (hk : ∀ b o, h.get? b = some o → b ∉ [lx, ldx] → g.get? b = some o) (hg : g.get? a = none) (n1 : @Ne Nat lx a) (n2 : @Ne Nat ldx a) : h.get? a = none := by
  cases q : h.get? a with
  | none => rfl
  | some o =>
    have := hk a o q (fun hm => by
      rcases List.mem_cons.mp hm with e | hm
      · exact n1 e.symm
      · exact n2 (List.mem_singleton.mp hm).symm)
    rw [hg] at this; cases this
theorem linit_call {w : World} {mean : ExcName → Option Value} {mg mb : Str → Option Value} {d u : Nat} {outer : List Env} {gg : Option (List Code)} {s : Shared} {R : Result → Shared → Prop} {lx ldx : Addr} {t : Tok} {x : Str}
   {h₀ : Heap} (X : (hd.heap_39 w.params).In h₀) (T : Top vw loo mean mg mb h₀) (st0 : h₀.StaysIn s.heap) (hd' : d ≤ 460) (hu : u ≤ 300) (hx : x.length ≤ 100000) (hne : @Ne Nat lx ldx)
   (hN0 : ∀ p ∈ [(lx, instObj 729 ldx), (ldx, dictOf [] 0)], s.heap.get? p.1 = some p.2 ∧ h₀.get? p.1 = none)
   (hR : ∀ h' tk kt vt sx sdx pb fs t1 t2 t3 tn tp, KeepBut s.heap h' [lx, ldx] → h'.get? lx = some (instObj 729 ldx) → h'.get? ldx = some (dictOf (shI w.params kt vt sx pb fs (Str.ofString "#") false) 19) → h'.get? sx = some (instObj 594 sdx) → h'.get? sdx = some (dictOf (sioEs w.params t1 t2 t3 tn t tp x ((0 : Nat) : Int)) 3) → h'.get? pb = some dqObj → h'.get? fs = some dqObj →
     s.heap.get? sx = none → s.heap.get? sdx = none → s.heap.get? pb = none → s.heap.get? fs = none → @Ne Nat sx sdx → (@Ne Nat sx pb ∧ @Ne Nat sdx pb) → (@Ne Nat pb fs ∧ @Ne Nat sx fs ∧ @Ne Nat sdx fs) → R (.ok (.ret .none)) ⟨h', s.gens, s.drawn, tk, s.os⟩) :
   codeAny (model pg w) (Ar none d outer gg u) (.call (.ref 653) ⟨[.ref lx, .str x t],[(Str.ofString "posix", .bool false)]⟩) R s := by
  w_on
  w_strict (
    (refine' enterM (binds := [(Str.ofString "self", Value.ref lx), (Str.ofString "instream", Value.str x t), (Str.ofString "infile", Value.none), (Str.ofString "posix", Value.bool false), (Str.ofString "punctuation_chars", Value.bool false)]) X (Top.nolimit T) st0 hN0 ?k6 ?k7 ?k8 ?k9 ?kB ?_ ?c2 ?c3 ?c4 ?c5; (case k6 => k_is); (case k7 => k_is); (case k8 => (simp only [recursionLimit]; omega)); (case k9 => first | exact BindsTo.of_eq rfl | exact binds_K (Frag.In.keeps X st0) rfl (by k_is) rfl rfl rfl); (case c5 => decide); (case kB => exact locs rfl); (case c2 => exact rfl); (case c3 => exact rfl); (case c4 => exact rfl); (try dsimp only [f46, f60, f87, f364, f371, f378, f540, f653, f660, f690, f697, f719, f726, f741, f748, f753, f758, f765, f772, f779, f784, f789, f794]))
    intro g h' stg hk F N
    have Xg := X.keeps stg
    have Tg := T.keeps stg
    clear X T hN0 st0
    k_unmd
    k_fold
    k_steps
    (rename Fr _ _ _ _ => F2)
    (rename News _ _ _ _ => N2)
    (rename (@Ne Nat _ _) => q1)
    (rename (@Ne Nat _ _) ∧ (@Ne Nat _ _) ∧ (@Ne Nat _ _) ∧ (@Ne Nat _ _) ∧ (@Ne Nat _ _) => q5)
    (rename (@Ne Nat _ _) ∧ (@Ne Nat _ _) ∧ (@Ne Nat _ _) ∧ (@Ne Nat _ _) => q4)
    (rename (@Ne Nat lx _) ∧ (@Ne Nat ldx _) => q3)
    (rename (@Ne Nat lx _) ∧ (@Ne Nat ldx _) => q2)
    obtain ⟨kt, vt, hd2⟩ := sh_mk (N2 _ (.tail _ (.tail _ (.tail _ (.tail _ (.tail _ (.head _))))))).1
    refine hR _ _ kt vt _ _ _ _ _ _ _ _ _ (fun b o e hb => F2.keep b o (hk b o e hb)) (News.get N2 (.tail _ (.tail _ (.tail _ (.tail _ (.head _)))))) hd2 (News.get N2 (.tail _ (.tail _ (.head _)))) (News.get N2 (.tail _ (.tail _ (.tail _ (.head _))))) (News.get N2 (.tail _ (.head _))) (News.get N2 (.head _))
      (fresh_hid (lx := lx) (ldx := ldx) hk (News.fresh N2 (.tail _ (.tail _ (.head _)))) ?_ ?_) (fresh_hid (lx := lx) (ldx := ldx) hk (News.fresh N2 (.tail _ (.tail _ (.tail _ (.head _))))) ?_ ?_) (fresh_hid (lx := lx) (ldx := ldx) hk (News.fresh N2 (.tail _ (.head _))) ?_ ?_) (fresh_hid (lx := lx) (ldx := ldx) hk (News.fresh N2 (.head _)) ?_ ?_) ?_ ⟨?_, ?_⟩ ⟨?_, ?_, ?_⟩ <;> first | omega | assumption)
end Mine

/-! part E6 -/
namespace Mine

theorem lex_make {w : World} {mean : ExcName → Option Value} {mg mb : Str → Option Value} {d u : Nat} {outer : List Env} {gg : Option (List Code)} {s : Shared} {R : Result → Shared → Prop} {x : Str} {t : Tok}
   (X : (hd.heap_39 w.params).In s.heap) (T : Top vw loo mean mg mb s.heap) (hd' : d ≤ 450) (hu : u ≤ 250) (hx : x.length ≤ 100000)
   (hR : ∀ h' tk kt vt lx ldx sx sdx pb fs t1 t2 t3 tn tp, s.heap.StaysIn h' → h'.get? lx = some (instObj 729 ldx) → h'.get? ldx = some (dictOf (shI w.params kt vt sx pb fs (Str.ofString "#") false) 19) → h'.get? sx = some (instObj 594 sdx) → h'.get? sdx = some (dictOf (sioEs w.params t1 t2 t3 tn t tp x ((0 : Nat) : Int)) 3) → h'.get? pb = some dqObj → h'.get? fs = some dqObj →
     (∀ a ∈ [lx, ldx, sx, sdx, pb, fs], s.heap.get? a = none) → (@Ne Nat lx ldx ∧ @Ne Nat lx sx ∧ @Ne Nat lx sdx ∧ @Ne Nat ldx sx ∧ @Ne Nat ldx sdx ∧ @Ne Nat sx sdx) → (@Ne Nat lx pb ∧ @Ne Nat ldx pb ∧ @Ne Nat sx pb ∧ @Ne Nat sdx pb) → (@Ne Nat lx fs ∧ @Ne Nat ldx fs ∧ @Ne Nat sx fs ∧ @Ne Nat sdx fs) → R (.ok (.ret (.ref lx))) ⟨h', s.gens, s.drawn, tk, s.os⟩) :
   codeAny (model pg w) (Ar none d outer gg u) (.call (.ref 729) ⟨[.str x t],[(Str.ofString "posix", .bool false)]⟩) R s := by
  have hA : (Ar none d outer gg u).under (.builtin "type.__call__" ⟨[.ref 729, .str x t], [(Str.ofString "posix", .bool false)]⟩) = Ar none (d + 1) outer gg (u + 1) := rfl
  obtain ⟨h, gs, dr, tk, os⟩ := s
  have m1 : makesIn (hd.heap_39 w.params) 729 = true := by k_is
  have m2 : findIn (hd.heap_39 w.params) (.ref 729) "__init__" = some (some (.ref 653)) := by k_is
  have m3 : typeIn (hd.heap_39 w.params) (.ref 653) = some (.type "function") := by k_is
  refine make_core (makes_of X m1) (looks_findIn X m2) (fun self => bind_fn X self m3) (.inl rfl) ?_
  rw [hA]
  have tp := two_push (C := 729) (h := h)
  have st : h.StaysIn ((h.push emptyDict).push (instObj 729 h.objs.size)) := fun b o e => Heap.get?_push_of_some _ (Heap.get?_push_of_some _ e)
  have hn0 := none_size h
  generalize ((h.push emptyDict).push (instObj 729 h.objs.size)) = h1 at st tp ⊢
  have hne : @Ne Nat (h.objs.size + 1) h.objs.size := Nat.succ_ne_self _
  refine linit_call (h₀ := h) X T st (by omega) (by omega) hx hne ?_ ?_
  · intro p hp
    rcases List.mem_cons.mp hp with rfl | hp
    · exact ⟨tp.2.1, tp.1⟩
    · rw [List.mem_singleton.mp hp]; exact ⟨tp.2.2, hn0⟩
  · intro h2 tk2 kt vt sx sdx pb fs t1 t2 t3 tn tp' kb g1 g2 g3 g4 g5 g6 f1 f2 f3 f4 n1 n2 n3
    have live : ∀ a b : Addr, h1.get? a = none → (∃ o, h1.get? b = some o) → @Ne Nat b a := fun a b e ⟨o, e2⟩ q => by rw [← q, e2] at e; cases e
    have L1 : ∃ o, h1.get? (h.objs.size + 1) = some o := ⟨_, tp.2.1⟩
    have L2 : ∃ o, h1.get? h.objs.size = some o := ⟨_, tp.2.2⟩
    refine ⟨rfl, hR h2 tk2 kt vt _ _ sx sdx pb fs t1 t2 t3 tn tp' (fun b o e => kb b o (st b o e) fun hm => ?_) g1 g2 g3 g4 g5 g6 ?_ ⟨hne, live _ _ f1 L1, live _ _ f2 L1, live _ _ f1 L2, live _ _ f2 L2, n1⟩ ⟨live _ _ f3 L1, live _ _ f3 L2, n2.1, n2.2⟩ ⟨live _ _ f4 L1, live _ _ f4 L2, n3.2.1, n3.2.2⟩⟩
    · rcases List.mem_cons.mp hm with rfl | hm
      · rw [tp.1] at e; cases e
      · rw [List.mem_singleton.mp hm, hn0] at e; cases e
    · intro a ha
      simp only [List.mem_cons, List.not_mem_nil, or_false] at ha
      rcases ha with rfl | rfl | rfl | rfl | rfl | rfl
      · exact tp.1
      · exact hn0
      · exact none_back st f1
      · exact none_back st f2
      · exact none_back st f3
      · exact none_back st f4
end Mine

/-! part E7 -/
namespace Mine

theorem sh_split {P : Params} {g h : Heap} {L lx ldx sx sdx pb fs : Addr} {kt vt : Nat → Tok} {c t1 t2 t3 tn tb tp : Tok} {x : Str} {r : List (Addr × Obj)} (N : News g L h ((lx, instObj 729 ldx) :: (ldx, dictOf [⟨PyData.keyHash P (Str.ofString "instream"), .str (Str.ofString "instream") (kt 0), .ref sx⟩,
   ⟨PyData.keyHash P (Str.ofString "infile"), .str (Str.ofString "infile") (kt 1), .none⟩,
   ⟨PyData.keyHash P (Str.ofString "posix"), .str (Str.ofString "posix") (kt 2), .bool false⟩,
   ⟨PyData.keyHash P (Str.ofString "eof"), .str (Str.ofString "eof") (kt 3), .str (Str.ofString "") (vt 3)⟩,
   ⟨PyData.keyHash P (Str.ofString "commenters"), .str (Str.ofString "commenters") (kt 4), .str (Str.ofString "") c⟩,
   ⟨PyData.keyHash P (Str.ofString "wordchars"), .str (Str.ofString "wordchars") (kt 5), .str (Str.ofString "abcdfeghijklmnopqrstuvwxyzABCDEFGHIJKLMNOPQRSTUVWXYZ0123456789_") (vt 5)⟩,
   ⟨PyData.keyHash P (Str.ofString "whitespace"), .str (Str.ofString "whitespace") (kt 6), .str (Str.ofString " \t\r\n") (vt 6)⟩,
   ⟨PyData.keyHash P (Str.ofString "whitespace_split"), .str (Str.ofString "whitespace_split") (kt 7), .bool true⟩,
   ⟨PyData.keyHash P (Str.ofString "quotes"), .str (Str.ofString "quotes") (kt 8), .str (Str.ofString "'\"") (vt 8)⟩,
   ⟨PyData.keyHash P (Str.ofString "escape"), .str (Str.ofString "escape") (kt 9), .str (Str.ofString "\\") (vt 9)⟩,
   ⟨PyData.keyHash P (Str.ofString "escapedquotes"), .str (Str.ofString "escapedquotes") (kt 10), .str (Str.ofString "\"") (vt 10)⟩,
   ⟨PyData.keyHash P (Str.ofString "state"), .str (Str.ofString "state") (kt 11), .str (Str.ofString " ") (vt 11)⟩,
   ⟨PyData.keyHash P (Str.ofString "pushback"), .str (Str.ofString "pushback") (kt 12), .ref pb⟩,
   ⟨PyData.keyHash P (Str.ofString "lineno"), .str (Str.ofString "lineno") (kt 13), .int 1 (vt 13)⟩,
   ⟨PyData.keyHash P (Str.ofString "debug"), .str (Str.ofString "debug") (kt 14), .int 0 (vt 14)⟩,
   ⟨PyData.keyHash P (Str.ofString "token"), .str (Str.ofString "token") (kt 15), .str (Str.ofString "") (vt 15)⟩,
   ⟨PyData.keyHash P (Str.ofString "filestack"), .str (Str.ofString "filestack") (kt 16), .ref fs⟩,
   ⟨PyData.keyHash P (Str.ofString "source"), .str (Str.ofString "source") (kt 17), .none⟩,
   ⟨PyData.keyHash P (Str.ofString "_punctuation_chars"), .str (Str.ofString "_punctuation_chars") (kt 18), .str (Str.ofString "") (vt 18)⟩] 19) :: (sx, instObj 594 sdx) :: (sdx, dictOf (sioEs P t1 t2 t3 tn tb tp x ((0 : Nat) : Int)) 3) :: r)) :
    ∃ vt', News g L h (lexN P kt vt' lx ldx sx sdx pb fs t1 t2 t3 tn tb tp (LS.sp.val (vt 11)) 1 (vt 13) (Str.ofString "") (vt 15) x ((0 : Nat) : Int)) :=
  ⟨fun i => if i = 4 then c else vt i, fun p hp => N p (List.mem_append_left r hp)⟩
theorem not4 {a lx ldx sx sdx : Addr} (h1 : @Ne Nat lx a) (h2 : @Ne Nat ldx a) (h3 : @Ne Nat sx a) (h4 : @Ne Nat sdx a) : a ∉ lexA lx ldx sx sdx := fun hm => by
  simp only [List.mem_cons, List.not_mem_nil, or_false] at hm
  rcases hm with e | e | e | e
  · exact h1 e.symm
  · exact h2 e.symm
  · exact h3 e.symm
  · exact h4 e.symm
theorem split_call {w : World} {mean : ExcName → Option Value} {mg mb : Str → Option Value} {d u : Nat} {outer : List Env} {gg : Option (List Code)} {s : Shared} {R : Result → Shared → Prop} {x : Str} {t : Tok} {base : Heap}
   (X : (hd.heap_39 w.params).In s.heap) (T : Top vw loo mean mg mb s.heap) (hd' : d ≤ 445) (hu : u ≤ 150) (hx : x.length ≤ 100000) (KB : Below (Ar none d outer gg u) base outer s.heap)
   (hok : ∀ h' tk D (vs : List Value) n ys, Mine.lx .sp [] (cs x) = some (ys.map cs) → StrsAre vs ys → s.heap.get? D = none → h'.get? D = some (W.listOf vs.toArray n) → KU (outer.filterMap (·.frame)) s.heap h' → R (.ok (.ret (.ref D))) ⟨h', s.gens, s.drawn, tk, s.os⟩)
   (herr : ∀ h' tk e t tk', Mine.lx .sp [] (cs x) = none → RaisedS base s.heap outer e (.type "ValueError") t [.str (Str.ofString "No closing quotation") tk'] [] h' → s.heap.UpToSlots h' → R (.error (.ref e)) ⟨h', s.gens, s.drawn, tk, s.os⟩) :
   codeAny (model pg w) (Ar none d outer gg u) (.call (.ref 741) ⟨[.str x t, .bool false, .bool false],[]⟩) R s := by
  w_on
  w_strict (
    (refine' enter0 (binds := [(Str.ofString "s", Value.str x t), (Str.ofString "comments", Value.bool false), (Str.ofString "posix", Value.bool false)]) X (Top.nolimit T) ?k6 ?k7 ?k8 ?k9 ?kB ?_ ?c2 ?c3 ?c4 ?c5; (case k6 => k_is); (case k7 => k_is); (case k8 => (simp only [recursionLimit]; omega)); (case k9 => exact binds_K X rfl (by k_is) rfl rfl rfl); (case c5 => decide); (case kB => exact locs rfl); (case c2 => exact rfl); (case c3 => exact rfl); (case c4 => exact rfl); (try dsimp only [f46, f60, f87, f364, f371, f378, f540, f653, f660, f690, f697, f719, f726, f741, f748, f753, f758, f765, f772, f779, f784, f789, f794]))
    intro h' F N
    k_unmd
    k_fold
    k_steps
    (rename Fr _ _ _ _ => F2)
    (rename News _ _ _ _ => N2)
    refine wpAny_call (lex_make (X.keeps F2.keep) (T.keeps F2.keep) (by (show d + 1 ≤ 450); omega) (by (show u + 3 ≤ 250); omega) hx ?_)
    intro h3 tk3 kt vt lx ldx sx sdx pb fs t1 t2 t3 tn tp st3 g1 g2 g3 g4 g5 g6 hf n1 n2 n3
    obtain ⟨n1, n4, n5, n6, n7, n8⟩ := n1
    obtain ⟨m1, m2, m3, m4⟩ := n2
    obtain ⟨m5, m6, m7, m8⟩ := n3
    have F3 := Fr.on F2 st3
    have N3 : News s.heap s.heap.objs.size h3 [(lx, instObj 729 ldx), (ldx, dictOf (shI w.params kt vt sx pb fs (Str.ofString "#") false) 19), (sx, instObj 594 sdx), (sdx, dictOf (sioEs w.params t1 t2 t3 tn t tp x ((0 : Nat) : Int)) 3), (pb, dqObj), (fs, dqObj)] := by
      intro p hp
      simp only [List.mem_cons, List.not_mem_nil, or_false] at hp
      rcases hp with rfl | rfl | rfl | rfl | rfl | rfl
      · exact News.add F2 News.nil st3 g1 (hf _ (by simp)) _ (.head _)
      · exact News.add F2 News.nil st3 g2 (hf _ (by simp)) _ (.head _)
      · exact News.add F2 News.nil st3 g3 (hf _ (by simp)) _ (.head _)
      · exact News.add F2 News.nil st3 g4 (hf _ (by simp)) _ (.head _)
      · exact News.add F2 News.nil st3 g5 (hf _ (by simp)) _ (.head _)
      · exact News.add F2 News.nil st3 g6 (hf _ (by simp)) _ (.head _)
    clear F2 N2
    dsimp only [wants]
    k_steps
    (rename Fr _ _ _ _ => F4)
    (rename News _ _ _ _ => N4)
    obtain ⟨vt', N5⟩ := sh_split N4
    have hst := hide_stays F4 N5
    have hX := X.keeps hst
    have hT := T.keeps hst
    have hp1 := hideAll_get (lexA lx ldx sx sdx) (News.get N4 (.tail _ (.tail _ (.tail _ (.tail _ (.head _)))))) (not4 m1 m2 m3 m4)
    have hp2 := hideAll_get (lexA lx ldx sx sdx) (News.get N4 (.tail _ (.tail _ (.tail _ (.tail _ (.tail _ (.head _))))))) (not4 m5 m6 m7 m8)
    have hN5 : ∀ p ∈ lexN w.params kt vt' lx ldx sx sdx pb fs t1 t2 t3 tn t tp (LS.sp.val (vt 11)) 1 (vt 13) (Str.ofString "") (vt 15) x ((0 : Nat) : Int), _ := fun p hp => News.get N5 hp
    clear N4
    refine list_lex (mean := mean) (mg := mg) (mb := mb) (lx := lx) (ldx := ldx) (sx := sx) (sdx := sdx) (pb := pb) (fs := fs) (kt := kt) (vt := vt') (t1 := t1) (t2 := t2) (t3 := t3) (tn := tn) (tb := t) (tp := tp) (lt := vt 13) (tt := vt 15) (stt := vt 11) (ln := 1) (buf := x) (d := d + 1) (u := u + 3) (gg := gg) (base := base) hX hT (by omega) (by omega) hx n1 n4 n5 n6 n7 n8 hp1 hp2 (hide_below KB F4 N5 rfl) hN5 ?ok ?err
    case err =>
      intro h5 tk5 e t tk' hl R5 U5
      exact leave_onS KB (hide_fr F4 N5) R5 U5 fun h6 R6 _ U6 => herr _ _ _ _ _ hl R6 U6
    case ok =>
      intro h5 tk5 D vs n ys hl hs hD hg hku
      refine hok _ _ D vs n ys hl hs (none_back F4.keep hD) hg ⟨fun b o e hb => hku.1 b o (hide_stays F4 N5 b o e) fun hm => ?_, upSlots_mono (hide_stays F4 N5) hku.2⟩
      rcases kts_mem hm with z | z
      · rw [z, none_size] at e; cases e
      · exact hb z)
end Mine

/-! part E8 -/
namespace Mine

theorem turn_KU {fs : List Addr} {g g' h : Heap} (T : KtsTurn fs g g') (k : g'.StaysIn h) : KU fs g h :=
  ⟨fun b o e hb => k b o (T.other b o e hb), fun b o e _ => by
    obtain ⟨sl, hs⟩ := T.up e
    exact ⟨sl, k _ _ hs⟩⟩
section
variable {prog : Program} {w : World} {A : Around} {E : Value → Shared → Prop} {s : Shared} {value slice : Expr} {x : Str} {t : Tok} {Q : Value → Shared → Prop}
theorem keptS {h : Heap} : KeptH (fun h' => h.StaysIn h') := fun _ ob a b o e => Heap.get?_push_of_some _ (a b o e)
theorem slice_S_sn {i : Int} {ui : Tok} (h : ∀ h' t' k, s.heap.StaysIn h' → (Txt.slice x (some i) none).length ≤ x.length → Q (.str (Txt.slice x (some i) none) t') { s with heap := h', toks := k }) (hsz : x.length ≤ sizeLine)
    (hs : subscripted slice false (.str x t) (.ref s.heap.objs.size) = operate [.ref s.heap.objs.size, .str x t] (getItem (.str x t) (.ref s.heap.objs.size)) := by with_unfolding_all rfl)
    (ht : ∀ r, letTemporaryGo value (.str x t) r = pure () := by intro _; with_unfolding_all rfl) :
    wpAny (model prog w) A (subscriptTail value slice (.str x t) (.ref s.heap.objs.size)) Q E { s with heap := s.heap.push { cls := .type "slice", data := .fields #[.int i ui, .none, .none] } } :=
  tail_of_ItemOn (SBH.sliceItem_sn (P := fun h' => s.heap.StaysIn h') keptS (fun _ _ e => e) (fun h' t' k a => h h' t' k a (Txt.slice_le _ _ _)) hsz) hs ht
theorem slice_S_ns {j : Int} {uj : Tok} (h : ∀ h' t' k, s.heap.StaysIn h' → (Txt.slice x none (some j)).length ≤ x.length → Q (.str (Txt.slice x none (some j)) t') { s with heap := h', toks := k }) (hsz : x.length ≤ sizeLine)
    (hs : subscripted slice false (.str x t) (.ref s.heap.objs.size) = operate [.ref s.heap.objs.size, .str x t] (getItem (.str x t) (.ref s.heap.objs.size)) := by with_unfolding_all rfl)
    (ht : ∀ r, letTemporaryGo value (.str x t) r = pure () := by intro _; with_unfolding_all rfl) :
    wpAny (model prog w) A (subscriptTail value slice (.str x t) (.ref s.heap.objs.size)) Q E { s with heap := s.heap.push { cls := .type "slice", data := .fields #[.none, .int j uj, .none] } } :=
  tail_of_ItemOn (SBH.sliceItem_ns (P := fun h' => s.heap.StaysIn h') keptS (fun _ _ e => e) (fun h' t' k a => h h' t' k a (Txt.slice_le _ _ _)) hsz) hs ht
end
theorem turn_none {fs : List Addr} {g g' : Heap} {a : Addr} (T : KtsTurn fs g g') (e : g'.get? a = none) : g.get? a = none := by
  cases q : g.get? a with
  | none => rfl
  | some o =>
    obtain ⟨sl, hs⟩ := T.up q
    rw [e] at hs; cases hs
local macro_rules | `(tactic| walk_at "subscriptTail Name Slice str ref") => `(tactic| (k_here; (with_reducible show wpAny _ _ (subscriptTail _ (Expr.Slice (some _) none none _) _ _) _ _ _); k_dflt (refine slice_S_sn (s := ⟨_, _, _, _, _⟩) ?_ (by simp only [sizeLine]; omega)); intro h'' t'' k'' st'' hl''; (have FF := Fr.on (by assumption) st''); (have NN := News.on (by assumption) st''); (have ZZ := nsOn (by assumption) st''); (have SS := StaysIn.tr (by assumption) st''); (try dsimp only)))
local macro_rules | `(tactic| walk_at "subscriptTail Name Slice str ref") => `(tactic| (k_here; (with_reducible show wpAny _ _ (subscriptTail _ (Expr.Slice none (some _) none _) _ _) _ _ _); k_dflt (refine slice_S_ns (s := ⟨_, _, _, _, _⟩) ?_ (by simp only [sizeLine]; omega)); intro h'' t'' k'' st'' hl''; (have FF := Fr.on (by assumption) st''); (have NN := News.on (by assumption) st''); (have ZZ := nsOn (by assumption) st''); (have SS := StaysIn.tr (by assumption) st''); (try dsimp only)))
local macro_rules | `(tactic| walk_at "newList") => `(tactic| (k_here; k_dflt (refine' newList_S ?k1 ?k2 ?_ ?z; (case k1 => k_asm); (case k2 => k_asm); (case z => exact Nat.le_of_ble_eq_true rfl); k_whole); intro l' h' st' hf' hg' F' N' l1; (have S1 := none_back (by assumption) hf'); (have SS := StaysIn.tr (by assumption) st'); (try k_lt l1)))
local macro_rules | `(tactic| walk_at "call ref") => `(tactic| (k_here; (with_reducible show wpAny _ _ (call (Value.ref 46) [Value.str _ _]) _ _ _); k_dflt (refine wpAny_call (strip_call (by k_in) (Top.keeps (by assumption) (Fr.keep (by assumption))) (by dsimp only; omega) (by dsimp only; omega) (by first | omega | exact Nat.le_trans (Txt.slice_le _ _ _) (by omega)) ?_); intro h'' tk'' y'' t'' hy'' st''; subst hy''; (have FF := Fr.on (by assumption) st''); (have NN := News.on (by assumption) st''); (have ZZ := nsOn (by assumption) st''); (have SS := StaysIn.tr (by assumption) st''); (try dsimp only))))
theorem read2_call {w : World} {mean : ExcName → Option Value} {mg mb : Str → Option Value} {d u : Nat} {outer : List Env} {gg : Option (List Code)} {s : Shared} {R : Result → Shared → Prop} {x : Str} {t : Tok} {base : Heap}
   (X : (hd.heap_39 w.params).In s.heap) (T : Top vw loo mean mg mb s.heap) (hd' : d ≤ 440) (hu : u ≤ 100) (hx : x.length ≤ 100000) (KB : Below (Ar none d outer gg u) base outer s.heap) (XB : (hd.heap_39 w.params).In base) (TB : Top vw loo mean mg mb base) (DB : KtsDicts (outer.filterMap (·.frame)) s.heap)
   (hok : ∀ h' tk D (ys : List Str) n (its : Array Value) as, Mine.lx .sp [] (cs x) = some (ys.map cs) → s.heap.get? D = none → h'.get? D = some (W.listOf its n) → KU (outer.filterMap (·.frame)) s.heap h' → Reads h' (.ref D) (rowsD (ys.map readQ)) as → R (.ok (.ret (.ref D))) ⟨h', s.gens, s.drawn, tk, s.os⟩)
   (herr : ∀ h' tk t', Mine.lx .sp [] (cs x) = none → KU (outer.filterMap (·.frame)) s.heap h' → R (.ok (.ret (.str (Str.ofString "No closing quotation") t'))) ⟨h', s.gens, s.drawn, tk, s.os⟩) :
   codeAny (model pg w) (Ar none d outer gg u) (.call (.ref 789) ⟨[.str x t],[]⟩) R s := by
  w_on
  w_strict (
    (refine' enter1 (by assumption) (Top.nolimit (by assumption)) ?k6 ?k7 ?k8 ?k9 ?kB ?_ ?c2 ?c3 ?c4 ?c5; (case k6 => k_is); (case k7 => k_is); (case k8 => (simp only [recursionLimit]; omega)); (case k9 => exact rfl); (case c5 => decide); (case kB => exact rfl); (case c2 => exact rfl); (case c3 => exact rfl); (case c4 => exact rfl); (try dsimp only [f46, f60, f87, f364, f371, f378, f540, f653, f660, f690, f697, f719, f726, f741, f748, f753, f758, f765, f772, f779, f784, f789, f794]))
    intro h' F N
    k_fold
    (repeat' (first | (k_unfold; (try dsimp only)) | ((fail_if_success (with_reducible show wpAny _ _ (call (Value.ref 741) _) _ _ _)); first | walk1 | (dsimp only; walk1)) | fail "no step"))
    (rename Fr _ _ _ _ => F2)
    (rename News _ _ _ _ => N2)
    refine wpAny_call (split_call (base := base) (X.keeps F2.keep) (T.keeps F2.keep) (by (show d + 1 ≤ 445); omega) (by (show u + 3 ≤ 150); omega) hx (Below.push KB F2 rfl) ?ok ?err)
    case err =>
      intro h5 tk5 e t tk' hl R5 U5
      clear N2
      refine caught_SB (X := "ValueError") (T' := "ValueError") R5 F2 KB U5 XB TB DB KtsTurn.refl ?ex PyProof.Rows.Boot.«ValueError» (by decide) PySem.F.isExc_ValueError PySem.F.notTuple_ValueError (by rw [isSubtype_type]; kernel_rfl) ?_
      case ex => k_is
      intro h6 g6 news6 tk6 T6 F6 N6 G6 Nl6 K6 X6 P6 D6
      clear F2 X T
      k_steps
      exact herr _ _ _ hl (turn_KU T6 (Fr.keep (by assumption)))
    case ok =>
      intro h3 tk3 D vs n ys hl hs hD hg hku
      obtain ⟨g', T', F', K'⟩ := kts_ground (B := h3) KB F2 hku.1 (fun _ _ e => e) hku.2
      have X' := XB.keeps K'.stays
      have T1 := TB.keeps K'.stays
      have hDg : g'.get? D = none := T'.none_ _ (none_back F2.keep hD)
      have N' : News g' s.heap.objs.size h3 [(D, W.listOf vs.toArray n)] := by
        intro p hp
        rw [List.mem_singleton.mp hp]
        refine ⟨hg, fun e => ?_, hDg⟩
        obtain ⟨oL, _, _, hL, _⟩ := F2.ns
        rw [← e, hD] at hL; cases hL
      have hlens := lex_lens hl hx
      clear F2 N2 X T
      dsimp only [wants]
      (repeat' (first | (k_unfold; (try dsimp only)) | ((fail_if_success (with_reducible show wpAny _ _ (eval (Expr.ListComp _ _ _ _) _) _ _ _)); first | walk1 | (dsimp only; walk1)) | fail "no step"))
      (rename Fr _ _ _ _ => F3)
      (rename News _ _ _ _ => N3)
      refine' comp_rows readQ 100000 rfl ?hy (News.isList N3 (.head _)) hs hlens.1 ?sz ?hc ?hcell rfl ?hn rfl ?elt ?done
      case sz => (simp only [sizeLine]; omega)
      case hc => with_unfolding_all rfl
      case hcell => decide
      case hn => decide
      case hy => (intro Q' hq; exact ld F3 rfl hq rfl rfl (by decide))
      case elt =>
        intro C b t s₂ m₂ E' hb hns hmx st
        have F4 := Fr.on F3 st
        have N4 := News.on N3 st
        have SS0 : s₂.heap.StaysIn s₂.heap := fun _ _ e => e
        clear F3 N3
        k_steps
        exact RowOut.mk' (by assumption) ⟨_, by assumption, rfl, _, rfl⟩ (.cons _ _ (.cons _ _ (.cons _ _ .nil))) (by assumption)
      case done =>
        intro D2 h2 tk2 n2 its as hD2 hg2 st2 hr2
        k_steps
        exact hok _ _ D2 ys n2 its as hl (turn_none T' (none_back F3.keep hD2)) hg2 (turn_KU T' (StaysIn.tr F3.keep st2)) hr2)
end Mine

/-! part B7 -/
namespace Mine
/-- the sequences stay -/
def SqS (h h' : Heap) : Prop := ∀ b o vs n, h.get? b = some o → o.data = .seq vs n → h'.get? b = some o
theorem SqS.of {h h' : Heap} (k : h.StaysIn h') : SqS h h' := fun b o _ _ e _ => k b o e
theorem SqS.tr {a b c : Heap} (x : SqS a b) (y : SqS b c) : SqS a c := fun p o vs n e d => y p o vs n (x p o vs n e d) d
theorem readsAll_strs {h h' : Heap} : ∀ {r : List Str} {vs : List Value} {as : List Addr}, ReadsAll h vs (r.map PyData.str) as → ReadsAll h' vs (r.map PyData.str) as
  | [], _, _, h => by cases h; exact .nil
  | x :: r, _, _, h => by
    cases h with
    | cons a b =>
      cases a with
      | str _ t => exact .cons (.str x t) (readsAll_strs b)
theorem readsAll_rows {h h' : Heap} (k : SqS h h') : ∀ {rows : List (List Str)} {vs : List Value} {as : List Addr}, ReadsAll h vs (rows.map fun r => PyData.list (r.map PyData.str)) as → ReadsAll h' vs (rows.map fun r => PyData.list (r.map PyData.str)) as
  | [], _, _, h => by cases h; exact .nil
  | r :: rows, _, _, h => by
    cases h with
    | cons a b =>
      cases a with
      | list ho hc hd ra => exact .cons (.list (k _ _ _ _ ho hd) hc hd (readsAll_strs ra)) (readsAll_rows k b)
theorem reads_rows {h h' : Heap} (k : SqS h h') {v : Value} {rows : List (List Str)} {as : List Addr} (R : Reads h v (rowsD rows) as) : Reads h' v (rowsD rows) as := by
  cases R with
  | list ho hc hd ra => exact .list (k _ _ _ _ ho hd) hc hd (readsAll_rows k ra)
section
variable {M : Model} {A : Around} {E : Value → Shared → Prop} {s : Shared} {h₀ : Heap} {L a : Addr} {m : Str → Option Value} {cn : Str} {cs : Scope} {ccd : Value} {cl : List (Str × Addr)}
  {x : Str} {v : Value} {Q : Unit → Shared → Prop} {news : List (Addr × Obj)}
theorem storeX_S (F : Fr h₀ L s.heap m) (N : News h₀ L s.heap news)
    (h : ∀ h', Fr h₀ L h' (fun y => if y = x then some v else m y) → News h₀ L h' news → SqS s.heap h' → Q () { s with heap := h', toks := s.toks + 1 })
    (hk : cs.kind = .function) (hx : (envX cn cs L a ccd cl).kindOf x = some .local) : wpAny M A (storeName (envX cn cs L a ccd cl) x v) Q E s := by
  refine wpAny_storeName_local hx F.ns (fun h' hn hs => h h' (F.set hn hs) (N.set hs) fun b o vs n e hd => ?_) (by show (cs.kind == .class || (cs.kind == .module && L != mainGlobals)) = false; rw [hk]; rfl)
  refine (hs.2 b fun q => ?_).trans e
  obtain ⟨oL, es, ep, hL, hdL, _⟩ := F.ns
  rw [q, hL] at e
  cases e
  rw [hdL] at hd; cases hd
end
end Mine

/-! part L1 -/
namespace Mine

section
variable {prog : Program} {w : World} {A : Around} {E : Value → Shared → Prop} {Q : Flow → Shared → Prop} {s : Shared} {env : Env} {h₀ : Heap} {L : Addr}
theorem execs_one {x : Stmt} {b : List Stmt} (J : (Str → Option Value) → List (Addr × Obj) → Prop) (h : wpAny (model prog w) A (execs [x] env) (PreEnd h₀ L J s) E s)
    (h2 : ∀ h' tk m₂ news₂, Fr h₀ L h' m₂ → News h₀ L h' news₂ → J m₂ news₂ → wpAny (model prog w) A (execs b env) Q E { s with heap := h', toks := tk }) : wpAny (model prog w) A (execs (x :: b) env) Q E s := by
  refine execs_split (a := [x]) (b := b) (wpAny_mono h (fun f s₃ h => ?_) (fun _ _ x => x))
  obtain ⟨rfl, h', tk, m₂, news₂, rfl, F, N, d⟩ := h
  exact h2 h' tk m₂ news₂ F N d
theorem PreEnd.sub {J : (Str → Option Value) → List (Addr × Obj) → Prop} {tk : Nat} {h' : Heap} {m₂ : Str → Option Value} {news₂ all : List (Addr × Obj)} (F : Fr h₀ L h' m₂) (N : News h₀ L h' all) (hs : ∀ p ∈ news₂, p ∈ all) (hJ : J m₂ news₂) :
    PreEnd h₀ L J s Flow.next ⟨h', s.gens, s.drawn, tk, s.os⟩ := ⟨rfl, h', tk, m₂, news₂, rfl, F, fun p hp => N p (hs p hp), hJ⟩
end
section
variable {prog : Program} {w : World} {A : Around} {E : Value → Shared → Prop} {s : Shared} {Q : Value → Shared → Prop}
theorem ints_reads {h : Heap} : ∀ {vs : List Value} {ns : List Int}, IntsAre vs ns → ReadsAll h vs (ns.map PyData.int) []
  | _, _, .nil => .nil
  | _, _, .cons y t r => .cons (as := []) (bs := []) (.int y t) (ints_reads r)
theorem ints_lay : ∀ ns : List Int, PyData.canLayAll0 (ns.map PyData.int) = true ∧ PyData.depthAll (ns.map PyData.int) = 0
  | [] => ⟨rfl, rfl⟩
  | x :: r => by
    have ih := ints_lay r
    refine ⟨?_, ?_⟩
    · show (true && PyData.canLayAll0 (r.map PyData.int)) = true
      rw [ih.1]; rfl
    · show max 0 (PyData.depthAll (r.map PyData.int)) = 0
      rw [ih.2]; rfl
theorem ints_shaped (ns : List Int) : SeqAt.shaped (.list (ns.map PyData.int)) = true := by
  unfold SeqAt.shaped
  have h1 : (PyData.list (ns.map PyData.int)).canLay0 = true := (ints_lay ns).1
  have h2 : (PyData.list (ns.map PyData.int)).depth ≤ 64 := by
    show PyData.depthAll _ + 1 ≤ 64
    rw [(ints_lay ns).2]; decide
  rw [h1, decide_eq_true h2]; rfl
theorem list_reads {l : Addr} {vs : List Value} {ns : List Int} (hl : s.heap.IsList l vs.toArray) (hI : IntsAre vs ns) : ∃ as, Reads s.heap (.ref l) (.list (ns.map PyData.int)) as := by
  obtain ⟨o, ho, hc, n, hd⟩ := hl
  exact ⟨_, .list ho hc hd (by simpa using ints_reads hI)⟩
theorem ne_nil {l b : Addr} {vs : List Value} {ns : List Int} {c : Bool} (hl : s.heap.IsList l vs.toArray) (hI : IntsAre vs ns) (hb : s.heap.IsList b #[]) (hu : A.units + 64 < cLine) (hc : c = !ns.isEmpty) (h : Q (.bool c) s) :
    wpAny (model prog w) A (compareOp .NotEq (.ref l) (.ref b)) Q E s := by
  obtain ⟨as, ra⟩ := list_reads hl hI
  obtain ⟨bs, rb⟩ := list_reads (vs := []) (ns := []) hb .nil
  refine SeqAt.compareNe_shaped ra rb (ints_shaped ns) (ints_shaped []) hu ?_
  subst hc
  have e : PyData.eqv (.list (ns.map PyData.int)) (.list ([].map PyData.int)) = ns.isEmpty := by
    cases ns with
    | nil => rfl
    | cons x r => rfl
  rw [e]; exact h
end
section
variable {h₀ h h' : Heap} {L : Addr} {m : Str → Option Value} {news : List (Addr × Obj)}
theorem ku_fr (F : Fr h₀ L h m) (k : KU [L] h h') : Fr h₀ L h' m :=
  ⟨k.2.ns F.ns, fun b o e => k.1 b o (F.keep b o e) (fun hm => by rw [List.mem_singleton.mp hm, kts_self F] at e; cases e), F.above⟩
theorem ku_news (N : News h₀ L h news) (k : KU [L] h h') : News h₀ L h' news :=
  fun p hp => ⟨k.1 _ _ (N p hp).1 fun hm => (N p hp).2.1 (List.mem_singleton.mp hm), (N p hp).2⟩
theorem dicts_law (F : Fr h₀ L h m) : KtsDicts [L] h := fun b hb => by
  rw [List.mem_singleton.mp hb]
  obtain ⟨o, es, n, ho, hd, _⟩ := F.ns
  exact ⟨o, es, n, ho, hd⟩
theorem below_law {d u : Nat} {gg : Option (List Code)} {name : Str} {scope : Scope} {a : Addr} {cd : Value} (F : Fr h₀ L h m) (hk : scope.kind = .function) : Below (Ar none d [envOfC name scope L a cd] gg u) h₀ [envOfC name scope L a cd] h := by
  refine ⟨rfl, F.keep, ?_, ?_, trivial⟩
  · show scope.kind ≠ .module
    rw [hk]; decide
  · obtain ⟨o, es, n, ho, hd, _⟩ := F.ns
    exact ⟨L, o, rfl, kts_self F, ho, fun vs q => by rw [hd] at q; cases q⟩
end
theorem reads_on {h h' : Heap} {v : Value} {d : PyData} {as : List Addr} (R : Reads h v d as) (k : h.StaysIn h') : Reads h' v d as := Reads.keeps k R
mutual
theorem reads_up {h h' : Heap} (U : h.UpToSlots h') : ∀ {v : Value} {d : PyData} {as : List Addr}, Reads h v d as → Reads h' v d as
  | _, _, _, .none => .none
  | _, _, _, .bool b => .bool b
  | _, _, _, .int i t => .int i t
  | _, _, _, .str x t => .str x t
  | _, _, _, .list ho hc hd r => by
    obtain ⟨sl, hs⟩ := U _ _ ho fun vs q => by rw [hd] at q; cases q
    exact .list hs hc hd (readsAll_up U r)
  | _, _, _, .tuple ho hc hd r => by
    obtain ⟨sl, hs⟩ := U _ _ ho fun vs q => by rw [hd] at q; cases q
    exact .tuple hs hc hd (readsAll_up U r)
  | _, _, _, .dict ho hc hd r1 r2 => by
    obtain ⟨sl, hs⟩ := U _ _ ho fun vs q => by rw [hd] at q; cases q
    exact .dict hs hc hd (readsAll_up U r1) (readsAll_up U r2)
theorem readsAll_up {h h' : Heap} (U : h.UpToSlots h') : ∀ {vs : List Value} {ds : List PyData} {as : List Addr}, ReadsAll h vs ds as → ReadsAll h' vs ds as
  | _, _, _, .nil => .nil
  | _, _, _, .cons r rs => .cons (reads_up U r) (readsAll_up U rs)
end
local macro_rules | `(tactic| walk_at "compareOp NotEq ref ref") => `(tactic| (k_here; k_dflt (refine rows_ne (by assumption) (by assumption) (okRows (by assumption)) (by units_room) ?_)))
local macro_rules | `(tactic| walk_at "newList") => `(tactic| (k_here; k_dflt (refine' newList_S ?k1 ?k2 ?_ ?z; (case k1 => k_asm); (case k2 => k_asm); (case z => exact Nat.le_of_ble_eq_true rfl); k_whole); intro l' h' st' hf' hg' F' N' l1; (try k_lt l1); (try k_sweep)))
local macro_rules | `(tactic| walk_at "compareOp NotEq ref ref") => `(tactic| (k_here; k_dflt (refine ne_nil (Fr.lst (by assumption) (by assumption)) (by assumption) (News.isList (by assumption) (by k_mem)) (by units_room) (by assumption) ?_)))
abbrev m0 (a : Addr) : Str → Option Value := fun y => if y = Str.ofString "script" then some (.ref a) else none
abbrev m1 (m0 : Str → Option Value) (l : Addr) : Str → Option Value := fun y => if y = Str.ofString "words" then some (.ref l) else m0 y
theorem strsAre_back {l : Str} : ∀ {i : List Str} {ws : List Value}, StrsAre ws (i ++ [l]) → ∃ pre tl, ws = pre ++ [Value.str l tl] ∧ StrsAre pre i
  | [], ws, h => by
    cases h with | cons y t h => cases h; exact ⟨[], t, rfl, .nil⟩
  | x :: i, ws, h => by
    cases h with
    | cons y t h =>
      obtain ⟨pre, tl, rfl, hp⟩ := strsAre_back h
      exact ⟨_, tl, rfl, .cons _ _ hp⟩
def J1 (m0 : Str → Option Value) (c : Addr × Obj) (m : Str → Option Value) (news : List (Addr × Obj)) : Prop :=
  ∃ lw pre l tl n i, m = m1 m0 lw ∧ news = [(lw, W.listOf (pre ++ [Value.str l tl]).toArray n), c] ∧ StrsAre pre i ∧ WordsOk 10 (i ++ [l]) ∧ @Ne Nat lw c.1
theorem J1.mk' {m0 : Str → Option Value} {c : Addr × Obj} {lw : Addr} {ws : List Value} {n : Nat} {ns : List Int} (hc : @Ne Nat lw c.1) (hne : ns ≠ []) (hS : StrsAre ws ((ns.take 10).foldl wordsStep [])) : J1 m0 c (m1 m0 lw) [(lw, W.listOf ws.toArray n), c] := by
  obtain ⟨h1, h2⟩ := words_ok ns hne
  obtain ⟨i, l, e⟩ := snoc_of h2
  rw [e] at hS h1
  obtain ⟨pre, tl, rfl, hp⟩ := strsAre_back hS
  exact ⟨lw, pre, l, tl, n, i, rfl, rfl, hp, h1, hc⟩
abbrev m2 (m : Str → Option Value) (x : Str) (t : Tok) : Str → Option Value := fun y => if y = Str.ofString "line" then some (.str x t) else m y
abbrev m3 (m : Str → Option Value) (lt : Addr) : Str → Option Value := fun y => if y = Str.ofString "told" then some (.ref lt) else m y
local macro_rules | `(tactic| walk_at "subscriptTail") => `(tactic| (k_here; (with_reducible show wpAny _ _ (subscriptTail _ _ (Value.ref _) (Value.int (-1) _)) _ _ _); k_dflt (refine get_last (News.isList (by assumption) (by k_mem)) ?_)))
local macro_rules | `(tactic| walk_at "call ref") => `(tactic| (k_here; (with_reducible show wpAny _ _ (call (Value.ref 753) [Value.str _ _]) _ _ _); k_dflt (refine wpAny_call (safe_call (by k_in) (Top.keeps (by assumption) (Fr.keep (by assumption))) (by dsimp only; omega) (by dsimp only; omega) (by omega) ?_); intro h'' tk'' b'' hb'' st''; subst hb''; (have FF := Fr.on (by assumption) st''); (have NN := News.on (by assumption) st''); (try dsimp only))))
local macro_rules | `(tactic| walk_at "compareOp In str ref") => `(tactic| (k_here; k_dflt (refine in_strs (News.isList (by assumption) (by k_mem)) (by assumption) ?_)))
theorem stays_of {h₀ h : Heap} {L : Addr} {m : Str → Option Value} (F : Fr h₀ L h m) : h.StaysIn h := fun _ _ e => e
local macro_rules | `(tactic| walk_at "newList") => `(tactic| (k_here; k_dflt (refine' newList_S ?k1 ?k2 ?_ ?z; (case k1 => k_asm); (case k2 => k_asm); (case z => exact Nat.le_of_ble_eq_true rfl); k_whole); intro l' h' st' hf' hg' F' N' l1; (have SS := StaysIn.tr (by assumption) st'); (try k_lt l1); (try k_sweep)))
local macro_rules | `(tactic| walk_at "subscriptTail Name Slice str ref") => `(tactic| (k_here; (with_reducible show wpAny _ _ (subscriptTail _ (Expr.Slice none (some _) none _) _ _) _ _ _); k_dflt (refine slice_S_ns (s := ⟨_, _, _, _, _⟩) ?_ (by simp only [sizeLine]; omega)); intro h'' t'' k'' st'' hl''; (have FF := Fr.on (by assumption) st''); (have NN := News.on (by assumption) st''); (try (have SS := StaysIn.tr (by assumption) st'')); (try dsimp only)))
local macro_rules | `(tactic| walk_at "storeName") => `(tactic| (k_here; (with_reducible show wpAny _ _ (storeName _ (Str.ofString "cut") _) _ _ _); k_dflt (refine' storeX_S ?F ?N ?_ ?a ?b; (case F => k_asm); (case N => k_asm); (case a => rfl); (case b => rfl)); intro h' F' N' SQ'; (try k_sweep)))
theorem law_call {w : World} {mean : ExcName → Option Value} {mg mb : Str → Option Value} {d u : Nat} {outer : List Env} {gg : Option (List Code)} {s : Shared} {R : Result → Shared → Prop} {a : Addr} {vs : List Value} {ns : List Int}
   (X : (hd.heap_39 w.params).In s.heap) (T : Top vw loo mean mg mb s.heap) (hd' : d ≤ 430) (hu : u ≤ 50) (ho : outer = [])
   (hl : s.heap.IsList a vs.toArray) (hI : IntsAre vs ns) (hn : ns.length ≤ 63)
   (hR : ∀ h' tk, s.heap.StaysIn h' → R (.ok (.ret (.bool true))) ⟨h', s.gens, s.drawn, tk, s.os⟩) :
   codeAny (model pg w) (Ar none d outer gg u) (.call (.ref 794) ⟨[.ref a],[]⟩) R s := by
  w_on
  w_strict (
    (refine' enterC (binds := [(Str.ofString "script", Value.ref a)]) (X) (Top.nolimit T) ?k6 ?k7 ?k8 ?k9 ?kB ?kD ?_ ?c2 ?c3 ?c4; (case k6 => k_is); (case k7 => k_is); (case k8 => (simp only [recursionLimit]; omega)); (case k9 => exact BindsTo.of_eq rfl); (case kB => exact rfl); (case kD => decide +kernel); (case c2 => exact rfl); (case c3 => exact rfl); (case c4 => exact rfl); (try dsimp only [f46, f60, f87, f364, f371, f378, f540, f653, f660, f690, f697, f719, f726, f741, f748, f753, f758, f765, f772, f779, f784, f789, f794]))
    intro h' tk cells F N Y
    (have hY := CellsAre.one Y; obtain ⟨o', hE', d1'⟩ := hY; subst hE')
    clear Y
    have F' : Fr s.heap s.heap.objs.size h' (m0 a) := F
    clear F
    refine execs_one (h₀ := s.heap) (L := s.heap.objs.size) (J1 (m0 a) (s.heap.objs.size + 1, o')) ?s1 ?rest
    case s1 =>
      cases hns : ns.isEmpty
      · have hne : true = !ns.isEmpty := by rw [hns]; rfl
        have hne0 : ns ≠ [] := by intro q; rw [q] at hns; cases hns
        k_unmd
        k_fold
        k_steps
        (rename Fr _ _ _ _ => F2)
        (rename News _ _ _ _ => N2)
        refine wpAny_call (words_call (ns := ns) (X.keeps F2.keep) (T.keeps F2.keep) (by (show d + 1 ≤ 480); omega) (by (show u + 3 ≤ 300); omega) (Fr.lst F2 hl) hI hn ?_)
        intro h3 tk3 lw ws n hg hS hf st
        have F3 := Fr.on F2 st
        have hne3 := News.fresh_ne N2 hf
        simp only [NeAll, and_true] at hne3
        have N3 := News.add F2 N2 st hg hf
        clear F2 N2
        dsimp only [wants]
        k_steps
        exact PreEnd.sub (news₂ := [(lw, W.listOf ws.toArray n), (s.heap.objs.size + 1, o')]) (by assumption) (by assumption) (by intro p hp; simp only [List.mem_cons, List.not_mem_nil, or_false] at hp ⊢; rcases hp with rfl | rfl <;> simp) (J1.mk' (by (show @Ne Nat lw (s.heap.objs.size + 1)); omega) hne0 hS)
      · have hne : false = !ns.isEmpty := by rw [hns]; rfl
        k_unmd
        k_fold
        k_steps
        (rename Fr _ _ _ _ => F2)
        (rename News _ _ _ _ => N2)
        refine wpAny_call (words_call (ns := [5, 1]) (X.keeps F2.keep) (T.keeps F2.keep) (by (show d + 1 ≤ 480); omega) (by (show u + 3 ≤ 300); omega) (News.isList N2 (.head _)) (.cons _ _ (.cons _ _ .nil)) (by decide) ?_)
        intro h3 tk3 lw ws n hg hS hf st
        have F3 := Fr.on F2 st
        have hne3 := News.fresh_ne N2 hf
        simp only [NeAll, and_true] at hne3
        have N3 := News.add F2 N2 st hg hf
        clear F2 N2
        dsimp only [wants]
        k_steps
        exact PreEnd.sub (news₂ := [(lw, W.listOf ws.toArray n), (s.heap.objs.size + 1, o')]) (by assumption) (by assumption) (by intro p hp; simp only [List.mem_cons, List.not_mem_nil, or_false] at hp ⊢; rcases hp with rfl | rfl <;> simp) (J1.mk' (by (show @Ne Nat lw (s.heap.objs.size + 1)); omega) (by simp) hS)
    case rest =>
      clear F' N hl hI
      rintro h1 tk1 m1' news1 F1 N1 ⟨lw, pre, l, tl, n, i, rfl, rfl, hp, hW, hlwc⟩
      have hlwc : @Ne Nat lw (s.heap.objs.size + 1) := hlwc
      have hS : StrsAre (pre ++ [Value.str l tl]) (i ++ [l]) := hp.append' (.cons _ _ .nil)
      have hc100 : (i ++ [l]).length ≤ 100 := Nat.le_trans hW.cnt (by decide)
      have hll := line_len hW
      k_unmd
      k_fold
      k_steps
      (rename Fr _ _ _ _ => F2)
      (rename News _ _ _ _ => N2)
      refine wpAny_call (line_call (xs := i ++ [l]) (X.keeps F2.keep) (T.keeps F2.keep) (by (show d + 1 ≤ 490); omega) (by (show u + 3 ≤ 400); omega) (News.isList N2 (.head _)) hS hc100 (fun x hx => Nat.le_trans (hW.len x hx) (by decide)) ?_)
      intro h3 tk3 y ty hy st
      subst hy
      have F3 := Fr.on F2 st
      have N3 := News.on N2 st
      clear F2 N2
      dsimp only [wants]
      k_steps
      (rename Fr _ _ _ _ => F2)
      (rename News _ _ _ _ => N2)
      refine wpAny_call (told_call (xs := i ++ [l]) (X.keeps F2.keep) (T.keeps F2.keep) (by (show d + 1 ≤ 480); omega) (by (show u + 3 ≤ 300); omega) (News.isList N2 (.head _)) hS hc100 (fun x hx => Nat.le_trans (hW.len x hx) (by decide)) ?_)
      intro h3 tk3 lt us nt hg hU hf st
      have F3 := Fr.on F2 st
      have hne3 := News.fresh_ne N2 hf
      simp only [NeAll, and_true] at hne3
      have N3 := News.add F2 N2 st hg hf
      clear F2 N2
      dsimp only [wants]
      k_steps
      have hokT := okTold hW.ok
      have hTl := told_len hW.len
      have hTc : (toldQ (i ++ [l])).length ≤ 10000 := Nat.le_trans (told_cnt hW.len) (by have := hW.cnt; omega)
      (rename Fr _ _ _ _ => F2)
      (rename News _ _ _ _ => N2)
      subst ho
      refine wpAny_call (read2_call (d := d + 1) (u := u + 3) (gg := gg) (outer := [_]) (base := s.heap) (X.keeps F2.keep) (T.keeps F2.keep) (by omega) (by omega) (by omega) (below_law F2 rfl) X T (dicts_law F2) ?ok4 ?err4)
      case err4 =>
        intro h3 tk3 t' hl' _
        rw [lineA (by simp)] at hl'
        cases hl'
      case ok4 =>
        intro h3 tk3 D ys n4 its as hl' hD hg hku hr
        rw [rowsA (by simp) hl'] at hr
        have F3 := ku_fr F2 hku
        have N3 := ku_news N2 hku
        clear F2 N2
        dsimp only [wants]
        k_steps
        (rename Fr _ _ _ _ => F2)
        (rename News _ _ _ _ => N2)
        refine wpAny_call (due_call (xs := toldQ (i ++ [l])) (ms := litA) (X.keeps F2.keep) (T.keeps F2.keep) (by (show d + 1 ≤ 480); omega) (by (show u + 3 ≤ 300); omega) (News.isList N2 (by k_mem)) hU (News.isList N2 (.head _)) (.cons _ _ .nil) hTc (fun x hx => Nat.le_trans (hTl x hx) (by decide)) ?_)
        intro h5 tk5 D5 n5 its5 as5 hD5 hg5 st5 hr5
        have F3 := Fr.on F2 st5
        have N3 := News.on N2 st5
        have hr4 := reads_on (reads_on hr (by assumption)) st5
        have hlen10 : l.length ≤ 10 := hW.len l (by simp)
        clear F2 N2
        dsimp only [wants]
        (repeat' (first | (k_unfold; (try dsimp only)) | ((fail_if_success (with_reducible show wpAny _ _ (compareOp _ _ _) _ _ _)); first | walk1 | (dsimp only; walk1)) | fail "no step"))
        refine rows_ne hr4 hr5 (okRows hokT) (by units_room) ?_
        clear hr4 hr5 hr
        (repeat' (first | (k_unfold; (try dsimp only)) | ((fail_if_success (with_reducible show wpAny _ _ (call (Value.ref 753) _) _ _ _)); first | walk1 | (dsimp only; walk1)) | fail "no step"))
        (rename Fr _ _ _ _ => F2)
        (rename News _ _ _ _ => N2)
        refine wpAny_call (safe_call (X.keeps F2.keep) (T.keeps F2.keep) (by (show d + 1 ≤ 500); omega) (by (show u + 3 ≤ 500); omega) (by omega) ?_)
        intro h6 tk6 b6 hb6 st6
        have F3 := Fr.on F2 st6
        have N3 := News.on N2 st6
        clear F2 N2
        dsimp only [wants]
        cases hsafe : safeQ l
        · rw [hsafe] at hb6
          subst hb6
          (repeat' (first | (k_unfold; (try dsimp only)) | ((fail_if_success (with_reducible show wpAny _ _ (call (Value.ref 789) _) _ _ _)); first | walk1 | (dsimp only; walk1)) | fail "no step"))
          (rename Fr _ _ _ _ => F2)
          (rename News _ _ _ _ => N2)
          refine wpAny_call (read2_call (d := d + 1) (u := u + 3) (gg := gg) (outer := [_]) (base := s.heap) (X.keeps F2.keep) (T.keeps F2.keep) (by omega) (by omega) (Nat.le_trans (Txt.slice_le _ _ _) (by omega)) (below_law F2 rfl) X T (dicts_law F2) ?ok7 ?err7)
          case ok7 =>
            intro h3 tk3 D ys n4 its as hl' _ _ _ _
            rw [cutBad hsafe] at hl'
            cases hl'
          case err7 =>
            intro h3 tk3 t' hl' hku
            have F3 := ku_fr F2 hku
            have N3 := ku_news N2 hku
            clear F2 N2
            dsimp only [wants]
            (repeat' (first | (k_unfold; (try dsimp only)) | ((fail_if_success (with_reducible show wpAny _ _ (eval (Expr.ListComp _ _ _ _) _) _ _ _)); first | walk1 | (dsimp only; walk1)) | fail "no step"))
            (rename Fr _ _ _ _ => F2)
            (rename News _ _ _ _ => N2)
            refine' comp_txtE (toldQ (i ++ [l])) id freeQ 20 rfl ?hy8 hTl ?sz8 ?hc8 ?hcell8 rfl ?hn8 rfl ?test8 ?elt8 ?done8
            case sz8 => (simp only [sizeLine]; omega)
            case hc8 => with_unfolding_all rfl
            case hcell8 => decide
            case hn8 => decide
            case hy8 => (intro Q' hq; k_dflt (refine' nameX_L ?F ?v ?_ ?a ?b; (case F => exact F2); (case a => rfl); (case b => rfl); (case v => rfl); exact hq _ _ _ (News.isList N2 (by k_mem)) hU ⟨_, _, rfl, fun _ _ e => e⟩))
            case test8 =>
              intro C b t s₂ m₂ E' hb hns hmx st
              have F4 := Fr.on F2 st
              have N4 := News.on N2 st
              clear F2 N2
              k_steps
              exact TestOut.mk' rfl (fun _ _ e => e)
            case elt8 =>
              intro C b t s₂ m₂ E' hb hp' hns hmx st
              have F4 := Fr.on F2 st
              have N4 := News.on N2 st
              clear F2 N2
              k_steps
              exact ⟨⟨t, rfl⟩, s₂.heap, s₂.toks, rfl, fun _ _ e => e⟩
            case done8 =>
              intro D8 ms8 n8 h8 tk8 hD8 hg8 st8 hS8
              have F3 := Fr.on F2 st8
              have hne8 := News.fresh_ne N2 hD8
              simp only [NeAll, and_true] at hne8
              have N3 := News.add F2 N2 st8 hg8 hD8
              clear F2 N2
              have hM8 : StrsAre ms8 (markedQ (toldQ (i ++ [l]))) := by rw [List.map_id] at hS8; exact hS8
              (repeat' (first | (k_unfold; (try dsimp only)) | ((fail_if_success (with_reducible show wpAny _ _ (eval (Expr.ListComp _ _ _ _) _) _ _ _)); first | walk1 | (dsimp only; walk1)) | fail "no step"))
              (rename Fr _ _ _ _ => F2)
              (rename News _ _ _ _ => N2)
              refine' comp_txtE (toldQ (i ++ [l])) (wrapQ (markedQ (toldQ (i ++ [l])))) (fun _ => true) 20 rfl ?hy9 hTl ?sz9 ?hc9 ?hcell9 rfl ?hn9 rfl ?test9 ?elt9 ?done9
              case sz9 => (simp only [sizeLine]; omega)
              case hc9 => with_unfolding_all rfl
              case hcell9 => decide
              case hn9 => decide
              case hy9 => (intro Q' hq; k_dflt (refine' nameX_L ?F ?v ?_ ?a ?b; (case F => exact F2); (case a => rfl); (case b => rfl); (case v => rfl); exact hq _ _ _ (News.isList N2 (by k_mem)) hU ⟨_, _, rfl, fun _ _ e => e⟩))
              case test9 =>
                intro C b t s₂ m₂ E' hb hns hmx st
                exact wpAny_pure (TestOut.self rfl)
              case elt9 =>
                intro C b t s₂ m₂ E' hb hp' hns hmx st
                have F4 := Fr.on F2 st
                have N4 := News.on N2 st
                clear F2 N2
                k_steps
                · exact ⟨⟨_, by unfold wrapQ; rw [if_pos (by assumption)]⟩, s₂.heap, _, rfl, fun _ _ e => e⟩
                · (rename (List.contains _ _) = false => hin0)
                  exact ⟨⟨t, by unfold wrapQ; rw [if_neg (by rw [hin0]; decide)]⟩, s₂.heap, _, rfl, fun _ _ e => e⟩
              case done9 =>
                intro D9 zs n9 h9 tk9 hD9 hg9 st9 hS9
                have F3 := Fr.on F2 st9
                have hne9 := News.fresh_ne N2 hD9
                simp only [NeAll, and_true] at hne9
                have N3 := News.add F2 N2 st9 hg9 hD9
                clear F2 N2
                rw [filter_yes] at hS9
                (repeat' (first | (k_unfold; (try dsimp only)) | ((fail_if_success (with_reducible show wpAny _ _ (call (Value.builtin "str.join") _) _ _ _)); first | walk1 | (dsimp only; walk1)) | fail "no step"))
                (rename Fr _ _ _ _ => F2)
                (rename News _ _ _ _ => N2)
                have hsum := wrap_sum (markedQ (toldQ (i ++ [l]))) (toldQ (i ++ [l])) hTl
                refine join_list (ys := (toldQ (i ++ [l])).map (wrapQ (markedQ (toldQ (i ++ [l]))))) (News.isList N2 (.head _)) (by simpa using hS9) (by rw [lenE]; omega) ?_
                intro t9 k9
                have hal := again_len (ts := toldQ (i ++ [l])) hTl (Nat.le_trans (told_cnt hW.len) (by have := hW.cnt; omega))
                (repeat' (first | (k_unfold; (try dsimp only)) | ((fail_if_success (with_reducible show wpAny _ _ (call (Value.ref 789) _) _ _ _)); first | walk1 | (dsimp only; walk1)) | fail "no step"))
                (rename Fr _ _ _ _ => F2)
                (rename News _ _ _ _ => N2)
                refine wpAny_call (read2_call (x := againQ (toldQ (i ++ [l]))) (d := d + 1) (u := u + 3) (gg := gg) (outer := [_]) (base := s.heap) (X.keeps F2.keep) (T.keeps F2.keep) (by omega) (by omega) hal (below_law F2 rfl) X T (dicts_law F2) ?ok10 ?err10)
                case err10 =>
                  intro h3 tk3 t' hl' _
                  exact absurd hl' (againA _)
                case ok10 =>
                  intro h10 tk10 D10 ys10 n10 its10 as10 hl10 hD10 hg10 hku10 hr10
                  rw [rowsC hl10] at hr10
                  have F3 := ku_fr F2 hku10
                  have N3 := ku_news N2 hku10
                  clear F2 N2
                  dsimp only [wants]
                  (repeat' (first | (k_unfold; (try dsimp only)) | ((fail_if_success (with_reducible show wpAny _ _ (call (Value.ref 784) _) _ _ _)); first | walk1 | (dsimp only; walk1)) | fail "no step"))
                  (rename Fr _ _ _ _ => F2)
                  (rename News _ _ _ _ => N2)
                  refine wpAny_call (due_call (xs := toldQ (i ++ [l])) (ms := markedQ (toldQ (i ++ [l]))) (X.keeps F2.keep) (T.keeps F2.keep) (by (show d + 1 ≤ 480); omega) (by (show u + 3 ≤ 300); omega) (News.isList N2 (by k_mem)) hU (News.isList N2 (by k_mem)) hM8 hTc (fun x hx => Nat.le_trans (hTl x hx) (by decide)) ?_)
                  intro h11 tk11 D11 n11 its11 as11 hD11 hg11 st11 hr11
                  have hr12 := reads_on hr10 st11
                  have F3 := Fr.on F2 st11
                  have N3 := News.on N2 st11
                  clear F2 N2
                  dsimp only [wants]
                  (repeat' (first | (k_unfold; (try dsimp only)) | ((fail_if_success (with_reducible show wpAny _ _ (compareOp _ _ _) _ _ _)); first | walk1 | (dsimp only; walk1)) | fail "no step"))
                  refine rows_eq hr12 hr11 (okRows hokT) (by units_room) ?_
                  k_steps
                  exact hR _ _ (Fr.keep (by assumption))
        · rw [hsafe] at hb6
          subst hb6
          (repeat' (first | (k_unfold; (try dsimp only)) | ((fail_if_success (with_reducible show wpAny _ _ (eval (Expr.ListComp _ _ _ _) _) _ _ _)); first | walk1 | (dsimp only; walk1)) | fail "no step"))
          (rename Fr _ _ _ _ => F2)
          (rename News _ _ _ _ => N2)
          refine' comp_txtE [Txt.slice l none (some (-1))] id (fun p => !(p == Str.ofString "")) 20 rfl ?hyp ?hBp ?szp ?hcp ?hcellp rfl ?hnp rfl ?testp ?eltp ?donep
          case hBp => (intro b hb; rw [List.mem_singleton.mp hb]; exact Nat.le_trans (Txt.slice_le _ _ _) (by omega))
          case szp => exact Nat.le_of_ble_eq_true rfl
          case hcp => with_unfolding_all rfl
          case hcellp => decide
          case hnp => decide
          case hyp =>
            intro Q' hq
            have SS0 := stays_of F2
            k_steps
            exact hq _ _ _ (News.isList (by assumption) (by k_mem)) (.cons _ _ .nil) ⟨_, _, rfl, by assumption⟩
          case testp =>
            intro C b t s₂ m₂ E' hb hns hmx st
            have F4 := Fr.on F2 st
            have N4 := News.on N2 st
            clear F2 N2
            k_steps
            exact TestOut.mk' rfl (fun _ _ e => e)
          case eltp =>
            intro C b t s₂ m₂ E' hb hp' hns hmx st
            have F4 := Fr.on F2 st
            have N4 := News.on N2 st
            clear F2 N2
            k_steps
            exact ⟨⟨t, rfl⟩, s₂.heap, s₂.toks, rfl, fun _ _ e => e⟩
          case donep =>
            intro Dp ysp np hp6 tkp hDp hgp stp hSp
            have F3 := Fr.on F2 stp
            have hnep := News.fresh_ne N2 hDp
            simp only [NeAll, and_true] at hnep
            have N3 := News.add F2 N2 stp hgp hDp
            clear F2 N2
            (repeat' (first | (k_unfold; (try dsimp only)) | ((fail_if_success (with_reducible show wpAny _ _ (binaryOp _ _ _) _ _ _)); first | walk1 | (dsimp only; walk1)) | fail "no step"))
            (rename Fr _ _ _ _ => F2)
            (rename News _ _ _ _ => N2)
            have hSA : StrsAre ((slicePick us.toArray none (some (-1)) none).toList ++ ysp.toArray.toList) (toldQ i ++ pieceQ l) := by
              rw [slice_drop1]
              have h1 := strs_dropLast hU
              rw [told_last hsafe] at h1
              rw [List.map_id] at hSp
              exact h1.append' hSp
            have hPl := pieceT_len hW
            refine kmk_add_lit F2 N2 (News.isList N2 (by k_mem)) (News.isList N2 (.head _)) rfl ?_ ?hzA
            case hzA =>
              have h1 := hSA.length
              rw [List.length_append] at h1
              exact Nat.le_trans (Nat.le_of_eq h1) (Nat.le_trans hPl.2 (by decide))
            intro DA hA FA NA lA
            (try k_lt lA)
            clear F2 N2
            (repeat' (first | (k_unfold; (try dsimp only)) | ((fail_if_success (with_reducible show wpAny _ _ (call (Value.ref 784) _) _ _ _)); first | walk1 | (dsimp only; walk1)) | fail "no step"))
            (rename Fr _ _ _ _ => F2)
            (rename News _ _ _ _ => N2)
            refine wpAny_call (due_call (xs := toldQ i ++ pieceQ l) (ms := litA) (X.keeps F2.keep) (T.keeps F2.keep) (by (show d + 1 ≤ 480); omega) (by (show u + 3 ≤ 300); omega) (News.isList N2 (by k_mem)) hSA (News.isList N2 (.head _)) (.cons _ _ .nil) (Nat.le_trans hPl.2 (by decide)) (fun x hx => Nat.le_trans (hPl.1 x hx) (by decide)) ?_)
            intro hc tkc Dc nc itsc asc hDc hgc stc hrc
            have F3 := Fr.on F2 stc
            have N3 := News.on N2 stc
            clear F2 N2
            dsimp only [wants]
            (repeat' (first | (k_unfold; (try dsimp only)) | ((fail_if_success (with_reducible show wpAny _ _ (call (Value.ref 789) _) _ _ _)); first | walk1 | (dsimp only; walk1)) | fail "no step"))
            (rename Fr _ _ _ _ => F2)
            (rename News _ _ _ _ => N2)
            have hrc2 := reads_rows (SqS.tr ‹SqS hc _› (SqS.of ‹Heap.StaysIn _ _›)) hrc
            refine wpAny_call (read2_call (d := d + 1) (u := u + 3) (gg := gg) (outer := [_]) (base := s.heap) (X.keeps F2.keep) (T.keeps F2.keep) (by omega) (by omega) (Nat.le_trans (Txt.slice_le _ _ _) (by omega)) (below_law F2 rfl) X T (dicts_law F2) ?ok7 ?err7)
            case err7 =>
              intro h3 tk3 t' hl' hku
              rw [cutGood hsafe] at hl'
              cases hl'
            case ok7 =>
                  intro h3 tk3 D7 ys7 n7 its7 as7 hl7 _ _ hku hr7
                  rw [rowsB hsafe hl7] at hr7
                  have hrc3 := reads_up hku.2 hrc2
                  have F3 := ku_fr F2 hku
                  have N0 := ku_news N2 hku
                  have N3 : News s.heap s.heap.objs.size h3 [(lt, W.listOf us.toArray nt), (s.heap.objs.size + 1, o')] := by
                    intro p hp
                    rcases List.mem_cons.mp hp with rfl | hp
                    · exact N0 _ (by k_mem)
                    · rw [List.mem_singleton.mp hp]; exact N0 _ (by k_mem)
                  clear F2 N2 N0
                  dsimp only [wants]
                  (repeat' (first | (k_unfold; (try dsimp only)) | ((fail_if_success (with_reducible show wpAny _ _ (compareOp _ _ _) _ _ _)); first | walk1 | (dsimp only; walk1)) | fail "no step"))
                  refine rows_ne hr7 hrc3 (okRows (ok_pieces hW)) (by units_room) ?_
                  (repeat' (first | (k_unfold; (try dsimp only)) | ((fail_if_success (with_reducible show wpAny _ _ (eval (Expr.ListComp _ _ _ _) _) _ _ _)); first | walk1 | (dsimp only; walk1)) | fail "no step"))
                  (rename Fr _ _ _ _ => F2)
                  (rename News _ _ _ _ => N2)
                  refine' comp_txtE (toldQ (i ++ [l])) id freeQ 20 rfl ?hy8 hTl ?sz8 ?hc8 ?hcell8 rfl ?hn8 rfl ?test8 ?elt8 ?done8
                  case sz8 => (simp only [sizeLine]; omega)
                  case hc8 => with_unfolding_all rfl
                  case hcell8 => decide
                  case hn8 => decide
                  case hy8 => (intro Q' hq; k_dflt (refine' nameX_L ?F ?v ?_ ?a ?b; (case F => exact F2); (case a => rfl); (case b => rfl); (case v => rfl); exact hq _ _ _ (News.isList N2 (by k_mem)) hU ⟨_, _, rfl, fun _ _ e => e⟩))
                  case test8 =>
                    intro C b t s₂ m₂ E' hb hns hmx st
                    have F4 := Fr.on F2 st
                    have N4 := News.on N2 st
                    clear F2 N2
                    k_steps
                    exact TestOut.mk' rfl (fun _ _ e => e)
                  case elt8 =>
                    intro C b t s₂ m₂ E' hb hp' hns hmx st
                    have F4 := Fr.on F2 st
                    have N4 := News.on N2 st
                    clear F2 N2
                    k_steps
                    exact ⟨⟨t, rfl⟩, s₂.heap, s₂.toks, rfl, fun _ _ e => e⟩
                  case done8 =>
                    intro D8 ms8 n8 h8 tk8 hD8 hg8 st8 hS8
                    have F3 := Fr.on F2 st8
                    have hne8 := News.fresh_ne N2 hD8
                    simp only [NeAll, and_true] at hne8
                    have N3 := News.add F2 N2 st8 hg8 hD8
                    clear F2 N2
                    have hM8 : StrsAre ms8 (markedQ (toldQ (i ++ [l]))) := by rw [List.map_id] at hS8; exact hS8
                    (repeat' (first | (k_unfold; (try dsimp only)) | ((fail_if_success (with_reducible show wpAny _ _ (eval (Expr.ListComp _ _ _ _) _) _ _ _)); first | walk1 | (dsimp only; walk1)) | fail "no step"))
                    (rename Fr _ _ _ _ => F2)
                    (rename News _ _ _ _ => N2)
                    refine' comp_txtE (toldQ (i ++ [l])) (wrapQ (markedQ (toldQ (i ++ [l])))) (fun _ => true) 20 rfl ?hy9 hTl ?sz9 ?hc9 ?hcell9 rfl ?hn9 rfl ?test9 ?elt9 ?done9
                    case sz9 => (simp only [sizeLine]; omega)
                    case hc9 => with_unfolding_all rfl
                    case hcell9 => decide
                    case hn9 => decide
                    case hy9 => (intro Q' hq; k_dflt (refine' nameX_L ?F ?v ?_ ?a ?b; (case F => exact F2); (case a => rfl); (case b => rfl); (case v => rfl); exact hq _ _ _ (News.isList N2 (by k_mem)) hU ⟨_, _, rfl, fun _ _ e => e⟩))
                    case test9 =>
                      intro C b t s₂ m₂ E' hb hns hmx st
                      exact wpAny_pure (TestOut.self rfl)
                    case elt9 =>
                      intro C b t s₂ m₂ E' hb hp' hns hmx st
                      have F4 := Fr.on F2 st
                      have N4 := News.on N2 st
                      clear F2 N2
                      k_steps
                      · exact ⟨⟨_, by unfold wrapQ; rw [if_pos (by assumption)]⟩, s₂.heap, _, rfl, fun _ _ e => e⟩
                      · (rename (List.contains _ _) = false => hin0)
                        exact ⟨⟨t, by unfold wrapQ; rw [if_neg (by rw [hin0]; decide)]⟩, s₂.heap, _, rfl, fun _ _ e => e⟩
                    case done9 =>
                      intro D9 zs n9 h9 tk9 hD9 hg9 st9 hS9
                      have F3 := Fr.on F2 st9
                      have hne9 := News.fresh_ne N2 hD9
                      simp only [NeAll, and_true] at hne9
                      have N3 := News.add F2 N2 st9 hg9 hD9
                      clear F2 N2
                      rw [filter_yes] at hS9
                      (repeat' (first | (k_unfold; (try dsimp only)) | ((fail_if_success (with_reducible show wpAny _ _ (call (Value.builtin "str.join") _) _ _ _)); first | walk1 | (dsimp only; walk1)) | fail "no step"))
                      (rename Fr _ _ _ _ => F2)
                      (rename News _ _ _ _ => N2)
                      have hsum := wrap_sum (markedQ (toldQ (i ++ [l]))) (toldQ (i ++ [l])) hTl
                      refine join_list (ys := (toldQ (i ++ [l])).map (wrapQ (markedQ (toldQ (i ++ [l]))))) (News.isList N2 (.head _)) (by simpa using hS9) (by rw [lenE]; omega) ?_
                      intro t9 k9
                      have hal := again_len (ts := toldQ (i ++ [l])) hTl (Nat.le_trans (told_cnt hW.len) (by have := hW.cnt; omega))
                      (repeat' (first | (k_unfold; (try dsimp only)) | ((fail_if_success (with_reducible show wpAny _ _ (call (Value.ref 789) _) _ _ _)); first | walk1 | (dsimp only; walk1)) | fail "no step"))
                      (rename Fr _ _ _ _ => F2)
                      (rename News _ _ _ _ => N2)
                      refine wpAny_call (read2_call (x := againQ (toldQ (i ++ [l]))) (d := d + 1) (u := u + 3) (gg := gg) (outer := [_]) (base := s.heap) (X.keeps F2.keep) (T.keeps F2.keep) (by omega) (by omega) hal (below_law F2 rfl) X T (dicts_law F2) ?ok10 ?err10)
                      case err10 =>
                        intro h3 tk3 t' hl' _
                        exact absurd hl' (againA _)
                      case ok10 =>
                        intro h10 tk10 D10 ys10 n10 its10 as10 hl10 hD10 hg10 hku10 hr10
                        rw [rowsC hl10] at hr10
                        have F3 := ku_fr F2 hku10
                        have N3 := ku_news N2 hku10
                        clear F2 N2
                        dsimp only [wants]
                        (repeat' (first | (k_unfold; (try dsimp only)) | ((fail_if_success (with_reducible show wpAny _ _ (call (Value.ref 784) _) _ _ _)); first | walk1 | (dsimp only; walk1)) | fail "no step"))
                        (rename Fr _ _ _ _ => F2)
                        (rename News _ _ _ _ => N2)
                        refine wpAny_call (due_call (xs := toldQ (i ++ [l])) (ms := markedQ (toldQ (i ++ [l]))) (X.keeps F2.keep) (T.keeps F2.keep) (by (show d + 1 ≤ 480); omega) (by (show u + 3 ≤ 300); omega) (News.isList N2 (by k_mem)) hU (News.isList N2 (by k_mem)) hM8 hTc (fun x hx => Nat.le_trans (hTl x hx) (by decide)) ?_)
                        intro h11 tk11 D11 n11 its11 as11 hD11 hg11 st11 hr11
                        have hr12 := reads_on hr10 st11
                        have F3 := Fr.on F2 st11
                        have N3 := News.on N2 st11
                        clear F2 N2
                        dsimp only [wants]
                        (repeat' (first | (k_unfold; (try dsimp only)) | ((fail_if_success (with_reducible show wpAny _ _ (compareOp _ _ _) _ _ _)); first | walk1 | (dsimp only; walk1)) | fail "no step"))
                        refine rows_eq hr12 hr11 (okRows hokT) (by units_room) ?_
                        k_steps
                        exact hR _ _ (Fr.keep (by assumption)))
end Mine

/-! part L2 -/
namespace Mine

theorem lawT : PySem.Challenge.rw_nq0186_01.Holds := hdT (by
  w_on
  w_strict (
    intro w s₀ s₁ mg mb G Y fa o pm cd doc dV kV ho hd hcd hD hmg hg args vals as hpre hlay hrd hwl hlo
    have KX := kIn_of Y
    rw [ddN] at hmg
    refine Ground.open G ?_
    intro T B D TE TW
    have hfa : fa = 794 := by
      have h1 := mg_of (n := Str.ofString "law") (v := .ref 794) KX (topRead_of T).g (by k_is)
      have h2 : mg (Str.ofString "law") = some (.ref fa) := hmg
      rw [h1] at h2
      cases h2; rfl
    clear hcd hD hmg ho hd B D TE TW Y G
    subst hfa
    wrow_args hpre hlay hrd hwl hlo
    show wpAny (model pg w) (Ar none (1 + claimMargin) [] (some []) 4) (call (Value.ref 794) [Value.ref _]) _ _ _
    refine wpAny_call (law_call (ns := _) KX T (by (show 1 + 300 ≤ 430); decide) (by decide) rfl (by assumption) (by assumption) (by omega) ?_)
    intro h' tk st
    refine GoodW.toG ⟨.inl ⟨_, .bool true, [], rfl, raisesW_false ?hn, .bool true, ?hp, fun _ => ⟨List.nodup_nil, fun _ h => nomatch h⟩⟩, st, rfl, hg⟩
    case hn => wrow_none_raised
    case hp => wrow_post))
end Mine

theorem PySem.Challenge.cw_nq0186_01_holds : PySem.Challenge.rw_nq0186_01.Holds := by
  exact Mine.lawT
