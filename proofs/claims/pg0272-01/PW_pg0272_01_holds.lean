import PyProof.Rows.All
import Wide.All
import OpenK.AllK
import Wide.FinOn
import PySem.Challenge.RW_pg0272_01
set_option Elab.async false
set_option linter.unusedVariables false
set_option linter.unusedSimpArgs false
set_option maxRecDepth 100000
set_option maxHeartbeats 8000000

namespace Mine
open PySem PySem.W PyProof.Rows
noncomputable abbrev prog : Program := PySem.Challenge.rw_pg0272_01.row.prog
/-- of the text's top: the law alone is held by the view; every other name is loose -/
noncomputable def seat : Program := view prog [0, 24]
noncomputable def loose : List Str := ["_wall", "TupleComp", "add_callers", "count_calls", "heappush", "heappop", "_siftdown", "_siftup", "tspecials", "_name_disallowed_re", "_value_disallowed_re", "_formatparam", "Headers", "_law_roads", "_law_pieces", "_law_walk", "_law_table", "_law_covers", "_law_tally"]
noncomputable def fnOf : Stmt → Arguments × List Stmt × Scope
  | .FunctionDef _ a b _ _ _ s _ _ _ => (a, b, s)
  | _ => (⟨[], [], none, [], [], none, []⟩, [], ⟨.function, [], false, false, []⟩)
noncomputable def inCls : Stmt → List Stmt
  | .ClassDef _ _ _ b .. => b
  | _ => []
noncomputable def stAt : List Stmt → Nat → Stmt
  | [], _ => .Pass ⟨0, 0, 0, 0⟩
  | s :: _, 0 => s
  | _ :: l, n + 1 => stAt l n
noncomputable abbrev topAt (n : Nat) : Stmt := stAt prog.main.body n
noncomputable abbrev inAt (n m : Nat) : Stmt := stAt (inCls (topAt n)) m
noncomputable abbrev ps_52 : Arguments := Subtype.val (p := fun b => (fnOf (inAt 3 0)).1 = b) ⟨⟨_, _, _, _, _, _, _⟩, rfl⟩
noncomputable abbrev bd_52 : List Stmt := Subtype.val (p := fun b => (fnOf (inAt 3 0)).2.1 = b) ⟨_ :: _, rfl⟩
noncomputable abbrev sc_52 : Scope := Subtype.val (p := fun b => (fnOf (inAt 3 0)).2.2 = b) ⟨⟨_, _, _, _, _⟩, rfl⟩
noncomputable abbrev ps_59 : Arguments := Subtype.val (p := fun b => (fnOf (inAt 3 1)).1 = b) ⟨⟨_, _, _, _, _, _, _⟩, rfl⟩
noncomputable abbrev bd_59 : List Stmt := Subtype.val (p := fun b => (fnOf (inAt 3 1)).2.1 = b) ⟨_ :: _, rfl⟩
noncomputable abbrev sc_59 : Scope := Subtype.val (p := fun b => (fnOf (inAt 3 1)).2.2 = b) ⟨⟨_, _, _, _, _⟩, rfl⟩
noncomputable abbrev ps_73 : Arguments := Subtype.val (p := fun b => (fnOf (topAt 4)).1 = b) ⟨⟨_, _, _, _, _, _, _⟩, rfl⟩
noncomputable abbrev bd_73 : List Stmt := Subtype.val (p := fun b => (fnOf (topAt 4)).2.1 = b) ⟨_ :: _, rfl⟩
noncomputable abbrev sc_73 : Scope := Subtype.val (p := fun b => (fnOf (topAt 4)).2.2 = b) ⟨⟨_, _, _, _, _⟩, rfl⟩
noncomputable abbrev ps_80 : Arguments := Subtype.val (p := fun b => (fnOf (topAt 5)).1 = b) ⟨⟨_, _, _, _, _, _, _⟩, rfl⟩
noncomputable abbrev bd_80 : List Stmt := Subtype.val (p := fun b => (fnOf (topAt 5)).2.1 = b) ⟨_ :: _, rfl⟩
noncomputable abbrev sc_80 : Scope := Subtype.val (p := fun b => (fnOf (topAt 5)).2.2 = b) ⟨⟨_, _, _, _, _⟩, rfl⟩
noncomputable abbrev ps_87 : Arguments := Subtype.val (p := fun b => (fnOf (topAt 7)).1 = b) ⟨⟨_, _, _, _, _, _, _⟩, rfl⟩
noncomputable abbrev bd_87 : List Stmt := Subtype.val (p := fun b => (fnOf (topAt 7)).2.1 = b) ⟨_ :: _, rfl⟩
noncomputable abbrev sc_87 : Scope := Subtype.val (p := fun b => (fnOf (topAt 7)).2.2 = b) ⟨⟨_, _, _, _, _⟩, rfl⟩
noncomputable abbrev ps_94 : Arguments := Subtype.val (p := fun b => (fnOf (topAt 8)).1 = b) ⟨⟨_, _, _, _, _, _, _⟩, rfl⟩
noncomputable abbrev bd_94 : List Stmt := Subtype.val (p := fun b => (fnOf (topAt 8)).2.1 = b) ⟨_ :: _, rfl⟩
noncomputable abbrev sc_94 : Scope := Subtype.val (p := fun b => (fnOf (topAt 8)).2.2 = b) ⟨⟨_, _, _, _, _⟩, rfl⟩
noncomputable abbrev ps_101 : Arguments := Subtype.val (p := fun b => (fnOf (topAt 9)).1 = b) ⟨⟨_, _, _, _, _, _, _⟩, rfl⟩
noncomputable abbrev bd_101 : List Stmt := Subtype.val (p := fun b => (fnOf (topAt 9)).2.1 = b) ⟨_ :: _, rfl⟩
noncomputable abbrev sc_101 : Scope := Subtype.val (p := fun b => (fnOf (topAt 9)).2.2 = b) ⟨⟨_, _, _, _, _⟩, rfl⟩
noncomputable abbrev ps_108 : Arguments := Subtype.val (p := fun b => (fnOf (topAt 10)).1 = b) ⟨⟨_, _, _, _, _, _, _⟩, rfl⟩
noncomputable abbrev bd_108 : List Stmt := Subtype.val (p := fun b => (fnOf (topAt 10)).2.1 = b) ⟨_ :: _, rfl⟩
noncomputable abbrev sc_108 : Scope := Subtype.val (p := fun b => (fnOf (topAt 10)).2.2 = b) ⟨⟨_, _, _, _, _⟩, rfl⟩
noncomputable abbrev ps_146 : Arguments := Subtype.val (p := fun b => (fnOf (inAt 16 0)).1 = b) ⟨⟨_, _, _, _, _, _, _⟩, rfl⟩
noncomputable abbrev bd_146 : List Stmt := Subtype.val (p := fun b => (fnOf (inAt 16 0)).2.1 = b) ⟨_ :: _, rfl⟩
noncomputable abbrev sc_146 : Scope := Subtype.val (p := fun b => (fnOf (inAt 16 0)).2.2 = b) ⟨⟨_, _, _, _, _⟩, rfl⟩
noncomputable abbrev ps_153 : Arguments := Subtype.val (p := fun b => (fnOf (inAt 16 1)).1 = b) ⟨⟨_, _, _, _, _, _, _⟩, rfl⟩
noncomputable abbrev bd_153 : List Stmt := Subtype.val (p := fun b => (fnOf (inAt 16 1)).2.1 = b) ⟨_ :: _, rfl⟩
noncomputable abbrev sc_153 : Scope := Subtype.val (p := fun b => (fnOf (inAt 16 1)).2.2 = b) ⟨⟨_, _, _, _, _⟩, rfl⟩
noncomputable abbrev ps_191 : Arguments := Subtype.val (p := fun b => (fnOf (inAt 16 7)).1 = b) ⟨⟨_, _, _, _, _, _, _⟩, rfl⟩
noncomputable abbrev bd_191 : List Stmt := Subtype.val (p := fun b => (fnOf (inAt 16 7)).2.1 = b) ⟨_ :: _, rfl⟩
noncomputable abbrev sc_191 : Scope := Subtype.val (p := fun b => (fnOf (inAt 16 7)).2.2 = b) ⟨⟨_, _, _, _, _⟩, rfl⟩
noncomputable abbrev ps_204 : Arguments := Subtype.val (p := fun b => (fnOf (inAt 16 9)).1 = b) ⟨⟨_, _, _, _, _, _, _⟩, rfl⟩
noncomputable abbrev bd_204 : List Stmt := Subtype.val (p := fun b => (fnOf (inAt 16 9)).2.1 = b) ⟨_ :: _, rfl⟩
noncomputable abbrev sc_204 : Scope := Subtype.val (p := fun b => (fnOf (inAt 16 9)).2.2 = b) ⟨⟨_, _, _, _, _⟩, rfl⟩
noncomputable abbrev ps_216 : Arguments := Subtype.val (p := fun b => (fnOf (inAt 16 11)).1 = b) ⟨⟨_, _, _, _, _, _, _⟩, rfl⟩
noncomputable abbrev bd_216 : List Stmt := Subtype.val (p := fun b => (fnOf (inAt 16 11)).2.1 = b) ⟨_ :: _, rfl⟩
noncomputable abbrev sc_216 : Scope := Subtype.val (p := fun b => (fnOf (inAt 16 11)).2.2 = b) ⟨⟨_, _, _, _, _⟩, rfl⟩
noncomputable abbrev ps_249 : Arguments := Subtype.val (p := fun b => (fnOf (inAt 16 16)).1 = b) ⟨⟨_, _, _, _, _, _, _⟩, rfl⟩
noncomputable abbrev bd_249 : List Stmt := Subtype.val (p := fun b => (fnOf (inAt 16 16)).2.1 = b) ⟨_ :: _, rfl⟩
noncomputable abbrev sc_249 : Scope := Subtype.val (p := fun b => (fnOf (inAt 16 16)).2.2 = b) ⟨⟨_, _, _, _, _⟩, rfl⟩
noncomputable abbrev ps_261 : Arguments := Subtype.val (p := fun b => (fnOf (topAt 18)).1 = b) ⟨⟨_, _, _, _, _, _, _⟩, rfl⟩
noncomputable abbrev bd_261 : List Stmt := Subtype.val (p := fun b => (fnOf (topAt 18)).2.1 = b) ⟨_ :: _, rfl⟩
noncomputable abbrev sc_261 : Scope := Subtype.val (p := fun b => (fnOf (topAt 18)).2.2 = b) ⟨⟨_, _, _, _, _⟩, rfl⟩
noncomputable abbrev ps_266 : Arguments := Subtype.val (p := fun b => (fnOf (topAt 19)).1 = b) ⟨⟨_, _, _, _, _, _, _⟩, rfl⟩
noncomputable abbrev bd_266 : List Stmt := Subtype.val (p := fun b => (fnOf (topAt 19)).2.1 = b) ⟨_ :: _, rfl⟩
noncomputable abbrev sc_266 : Scope := Subtype.val (p := fun b => (fnOf (topAt 19)).2.2 = b) ⟨⟨_, _, _, _, _⟩, rfl⟩
noncomputable abbrev ps_271 : Arguments := Subtype.val (p := fun b => (fnOf (topAt 20)).1 = b) ⟨⟨_, _, _, _, _, _, _⟩, rfl⟩
noncomputable abbrev bd_271 : List Stmt := Subtype.val (p := fun b => (fnOf (topAt 20)).2.1 = b) ⟨_ :: _, rfl⟩
noncomputable abbrev sc_271 : Scope := Subtype.val (p := fun b => (fnOf (topAt 20)).2.2 = b) ⟨⟨_, _, _, _, _⟩, rfl⟩
noncomputable abbrev ps_276 : Arguments := Subtype.val (p := fun b => (fnOf (topAt 21)).1 = b) ⟨⟨_, _, _, _, _, _, _⟩, rfl⟩
noncomputable abbrev bd_276 : List Stmt := Subtype.val (p := fun b => (fnOf (topAt 21)).2.1 = b) ⟨_ :: _, rfl⟩
noncomputable abbrev sc_276 : Scope := Subtype.val (p := fun b => (fnOf (topAt 21)).2.2 = b) ⟨⟨_, _, _, _, _⟩, rfl⟩
noncomputable abbrev ps_281 : Arguments := Subtype.val (p := fun b => (fnOf (topAt 22)).1 = b) ⟨⟨_, _, _, _, _, _, _⟩, rfl⟩
noncomputable abbrev bd_281 : List Stmt := Subtype.val (p := fun b => (fnOf (topAt 22)).2.1 = b) ⟨_ :: _, rfl⟩
noncomputable abbrev sc_281 : Scope := Subtype.val (p := fun b => (fnOf (topAt 22)).2.2 = b) ⟨⟨_, _, _, _, _⟩, rfl⟩
noncomputable abbrev ps_286 : Arguments := Subtype.val (p := fun b => (fnOf (topAt 23)).1 = b) ⟨⟨_, _, _, _, _, _, _⟩, rfl⟩
noncomputable abbrev bd_286 : List Stmt := Subtype.val (p := fun b => (fnOf (topAt 23)).2.1 = b) ⟨_ :: _, rfl⟩
noncomputable abbrev sc_286 : Scope := Subtype.val (p := fun b => (fnOf (topAt 23)).2.2 = b) ⟨⟨_, _, _, _, _⟩, rfl⟩
noncomputable abbrev ps_291 : Arguments := Subtype.val (p := fun b => (fnOf (topAt 24)).1 = b) ⟨⟨_, _, _, _, _, _, _⟩, rfl⟩
noncomputable abbrev bd_291 : List Stmt := Subtype.val (p := fun b => (fnOf (topAt 24)).2.1 = b) ⟨_ :: _, rfl⟩
noncomputable abbrev sc_291 : Scope := Subtype.val (p := fun b => (fnOf (topAt 24)).2.2 = b) ⟨⟨_, _, _, _, _⟩, rfl⟩
/-- what of the heap behind the text's top the walks look at -/
noncomputable def laid (P : Params) : Frag := [
  (3, Obj.mk (Value.type "dict") none (Data.dict #[DictEntry.mk (PyData.keyHash P (Str.ofString "__name__")) (Value.str (Str.ofString "__name__") 165) (Value.str (Str.ofString "law_pg0272_01") 660), DictEntry.mk (PyData.keyHash P (Str.ofString "__doc__")) (Value.str (Str.ofString "__doc__") 166) Value.none, DictEntry.mk (PyData.keyHash P (Str.ofString "__package__")) (Value.str (Str.ofString "__package__") 167) Value.none, DictEntry.mk (PyData.keyHash P (Str.ofString "__loader__")) (Value.str (Str.ofString "__loader__") 168) (Value.builtin "__main__.__loader__#opaque"), DictEntry.mk (PyData.keyHash P (Str.ofString "__spec__")) (Value.str (Str.ofString "__spec__") 169) Value.none, DictEntry.mk (PyData.keyHash P (Str.ofString "__annotations__")) (Value.str (Str.ofString "__annotations__") 170) (Value.ref 6), DictEntry.mk (PyData.keyHash P (Str.ofString "__builtins__")) (Value.str (Str.ofString "__builtins__") 171) (Value.ref 4), DictEntry.mk (PyData.keyHash P (Str.ofString "__file__")) (Value.str (Str.ofString "__file__") 173) (Value.str (Str.ofString "/claim/cut.py") 172), DictEntry.mk (PyData.keyHash P (Str.ofString "__cached__")) (Value.str (Str.ofString "__cached__") 174) Value.none, DictEntry.mk (PyData.keyHash P (Str.ofString "_sre")) (Value.str (Str.ofString "_sre") 275) (Value.ref 12), DictEntry.mk (PyData.keyHash P (Str.ofString "_wall")) (Value.str (Str.ofString "_wall") 288) (Value.ref 38), DictEntry.mk (PyData.keyHash P (Str.ofString "TupleComp")) (Value.str (Str.ofString "TupleComp") 332) (Value.ref 62), DictEntry.mk (PyData.keyHash P (Str.ofString "add_callers")) (Value.str (Str.ofString "add_callers") 343) (Value.ref 73), DictEntry.mk (PyData.keyHash P (Str.ofString "count_calls")) (Value.str (Str.ofString "count_calls") 352) (Value.ref 80), DictEntry.mk (PyData.keyHash P (Str.ofString "heappush")) (Value.str (Str.ofString "heappush") 362) (Value.ref 87), DictEntry.mk (PyData.keyHash P (Str.ofString "heappop")) (Value.str (Str.ofString "heappop") 371) (Value.ref 94), DictEntry.mk (PyData.keyHash P (Str.ofString "_siftdown")) (Value.str (Str.ofString "_siftdown") 383) (Value.ref 101), DictEntry.mk (PyData.keyHash P (Str.ofString "_siftup")) (Value.str (Str.ofString "_siftup") 396) (Value.ref 108), DictEntry.mk (PyData.keyHash P (Str.ofString "tspecials")) (Value.str (Str.ofString "tspecials") 432) (Value.ref 113), DictEntry.mk (PyData.keyHash P (Str.ofString "_name_disallowed_re")) (Value.str (Str.ofString "_name_disallowed_re") 458) (Value.ref 118), DictEntry.mk (PyData.keyHash P (Str.ofString "_value_disallowed_re")) (Value.str (Str.ofString "_value_disallowed_re") 492) (Value.ref 123), DictEntry.mk (PyData.keyHash P (Str.ofString "_formatparam")) (Value.str (Str.ofString "_formatparam") 502) (Value.ref 131), DictEntry.mk (PyData.keyHash P (Str.ofString "Headers")) (Value.str (Str.ofString "Headers") 659) (Value.ref 252), DictEntry.mk (PyData.keyHash P (Str.ofString "_law_roads")) (Value.str (Str.ofString "_law_roads") 667) (Value.ref 261), DictEntry.mk (PyData.keyHash P (Str.ofString "_law_pieces")) (Value.str (Str.ofString "_law_pieces") 673) (Value.ref 266), DictEntry.mk (PyData.keyHash P (Str.ofString "_law_walk")) (Value.str (Str.ofString "_law_walk") 679) (Value.ref 271), DictEntry.mk (PyData.keyHash P (Str.ofString "_law_table")) (Value.str (Str.ofString "_law_table") 685) (Value.ref 276), DictEntry.mk (PyData.keyHash P (Str.ofString "_law_covers")) (Value.str (Str.ofString "_law_covers") 691) (Value.ref 281), DictEntry.mk (PyData.keyHash P (Str.ofString "_law_tally")) (Value.str (Str.ofString "_law_tally") 697) (Value.ref 286), DictEntry.mk (PyData.keyHash P (Str.ofString "law")) (Value.str (Str.ofString "law") 703) (Value.ref 291)] 30) #[]),
  (51, Obj.mk (Value.type "code") none (Data.fields #[Value.str (Str.ofString "__init__") 303, Value.str (Str.ofString "TupleComp.__init__") 304, Value.str (Str.ofString "/claim/cut.py") 305, Value.int 8 0, Value.int 2 0, Value.int 0 0, Value.int 0 0, Value.int 3 0, Value.ref 46, Value.bool true, Value.int 276 0, Value.ref 47, Value.none, Value.ref 48, Value.ref 49, Value.ref 50, Value.int 308 0, Value.int 8 0, Value.str (Str.ofString "/claim/cut.py") 309]) #[]),
  (52, Obj.mk (Value.type "function") none (Data.func (FuncData.mk (Str.ofString "__init__") (Str.ofString "TupleComp.__init__") ps_52 (FuncBody.stmts bd_52) sc_52 3 [] Value.none Value.none Value.none (Value.str (Str.ofString "cpy313.pstats") 289) none (Value.ref 51) Value.none 0)) #[]),
  (58, Obj.mk (Value.type "code") none (Data.fields #[Value.str (Str.ofString "compare") 311, Value.str (Str.ofString "TupleComp.compare") 312, Value.str (Str.ofString "/claim/cut.py") 313, Value.int 11 0, Value.int 3 0, Value.int 0 0, Value.int 0 0, Value.int 3 0, Value.ref 53, Value.bool true, Value.int 276 0, Value.ref 54, Value.none, Value.ref 55, Value.ref 56, Value.ref 57, Value.int 321 0, Value.int 11 0, Value.str (Str.ofString "/claim/cut.py") 322]) #[]),
  (59, Obj.mk (Value.type "function") none (Data.func (FuncData.mk (Str.ofString "compare") (Str.ofString "TupleComp.compare") ps_59 (FuncBody.stmts bd_59) sc_59 3 [] Value.none Value.none Value.none (Value.str (Str.ofString "cpy313.pstats") 289) none (Value.ref 58) Value.none 0)) #[]),
  (60, Obj.mk (Value.type "tuple") none (Data.seq #[Value.str (Str.ofString "comp_select_list") 324]) #[]),
  (61, Obj.mk (Value.type "dict") none (Data.dict #[DictEntry.mk (PyData.keyHash P (Str.ofString "__module__")) (Value.str (Str.ofString "__module__") 298) (Value.str (Str.ofString "cpy313.pstats") 289), DictEntry.mk (PyData.keyHash P (Str.ofString "__firstlineno__")) (Value.str (Str.ofString "__firstlineno__") 302) (Value.int 6 301), DictEntry.mk (PyData.keyHash P (Str.ofString "__init__")) (Value.str (Str.ofString "__init__") 310) (Value.ref 52), DictEntry.mk (PyData.keyHash P (Str.ofString "compare")) (Value.str (Str.ofString "compare") 323) (Value.ref 59), DictEntry.mk (PyData.keyHash P (Str.ofString "__static_attributes__")) (Value.str (Str.ofString "__static_attributes__") 325) (Value.ref 60), DictEntry.mk (PyData.keyHash P (Str.ofString "__dict__")) (Value.str (Str.ofString "__dict__") 327) (Value.ref 63), DictEntry.mk (PyData.keyHash P (Str.ofString "__weakref__")) (Value.str (Str.ofString "__weakref__") 329) (Value.ref 64), DictEntry.mk (PyData.keyHash P (Str.ofString "__doc__")) (Value.str (Str.ofString "__doc__") 330) Value.none] 4) #[]),
  (62, Obj.mk (Value.type "type") none (Data.cls (ClassData.mk (Str.ofString "TupleComp") [Value.type "object"] [Value.ref 62, Value.type "object"] 61 (Str.ofString "TupleComp") true [] [] false none false)) #[none, none, some (Value.str (Str.ofString "TupleComp") 291), some (Value.str (Str.ofString "TupleComp") 299), some (Value.builtin "object.__new__"), some (Value.bool true)]),
  (63, Obj.mk (Value.type "getset_descriptor") none (Data.fields #[Value.str (Str.ofString "__dict__") 326, Value.ref 62, Value.builtin "function.__dict__", Value.builtin "function.__dict__#set"]) #[]),
  (64, Obj.mk (Value.type "getset_descriptor") none (Data.fields #[Value.str (Str.ofString "__weakref__") 328, Value.ref 62, Value.builtin "ExceptionGroup.__weakref__", Value.none]) #[]),
  (72, Obj.mk (Value.type "code") none (Data.fields #[Value.str (Str.ofString "add_callers") 333, Value.str (Str.ofString "add_callers") 334, Value.str (Str.ofString "/claim/cut.py") 335, Value.int 20 0, Value.int 2 0, Value.int 0 0, Value.int 0 0, Value.int 3 0, Value.ref 67, Value.bool true, Value.int 276 0, Value.ref 68, Value.none, Value.ref 69, Value.ref 70, Value.ref 71, Value.int 341 0, Value.int 20 0, Value.str (Str.ofString "/claim/cut.py") 342]) #[]),
  (73, Obj.mk (Value.type "function") none (Data.func (FuncData.mk (Str.ofString "add_callers") (Str.ofString "add_callers") ps_73 (FuncBody.stmts bd_73) sc_73 3 [] Value.none Value.none Value.none (Value.str (Str.ofString "cpy313.pstats") 289) none (Value.ref 72) Value.none 0)) #[]),
  (79, Obj.mk (Value.type "code") none (Data.fields #[Value.str (Str.ofString "count_calls") 344, Value.str (Str.ofString "count_calls") 345, Value.str (Str.ofString "/claim/cut.py") 346, Value.int 33 0, Value.int 1 0, Value.int 0 0, Value.int 0 0, Value.int 3 0, Value.ref 74, Value.bool true, Value.int 276 0, Value.ref 75, Value.none, Value.ref 76, Value.ref 77, Value.ref 78, Value.int 350 0, Value.int 33 0, Value.str (Str.ofString "/claim/cut.py") 351]) #[]),
  (80, Obj.mk (Value.type "function") none (Data.func (FuncData.mk (Str.ofString "count_calls") (Str.ofString "count_calls") ps_80 (FuncBody.stmts bd_80) sc_80 3 [] Value.none Value.none Value.none (Value.str (Str.ofString "cpy313.pstats") 289) none (Value.ref 79) Value.none 0)) #[]),
  (86, Obj.mk (Value.type "code") none (Data.fields #[Value.str (Str.ofString "heappush") 355, Value.str (Str.ofString "heappush") 356, Value.str (Str.ofString "/claim/cut.py") 357, Value.int 39 0, Value.int 2 0, Value.int 0 0, Value.int 0 0, Value.int 3 0, Value.ref 81, Value.bool true, Value.int 276 0, Value.ref 82, Value.none, Value.ref 83, Value.ref 84, Value.ref 85, Value.int 360 0, Value.int 39 0, Value.str (Str.ofString "/claim/cut.py") 361]) #[]),
  (87, Obj.mk (Value.type "function") none (Data.func (FuncData.mk (Str.ofString "heappush") (Str.ofString "heappush") ps_87 (FuncBody.stmts bd_87) sc_87 3 [] Value.none Value.none Value.none (Value.str (Str.ofString "cpy313.heapq") 353) none (Value.ref 86) Value.none 0)) #[]),
  (93, Obj.mk (Value.type "code") none (Data.fields #[Value.str (Str.ofString "heappop") 363, Value.str (Str.ofString "heappop") 364, Value.str (Str.ofString "/claim/cut.py") 365, Value.int 42 0, Value.int 1 0, Value.int 0 0, Value.int 0 0, Value.int 3 0, Value.ref 88, Value.bool true, Value.int 276 0, Value.ref 89, Value.none, Value.ref 90, Value.ref 91, Value.ref 92, Value.int 369 0, Value.int 42 0, Value.str (Str.ofString "/claim/cut.py") 370]) #[]),
  (94, Obj.mk (Value.type "function") none (Data.func (FuncData.mk (Str.ofString "heappop") (Str.ofString "heappop") ps_94 (FuncBody.stmts bd_94) sc_94 3 [] Value.none Value.none Value.none (Value.str (Str.ofString "cpy313.heapq") 353) none (Value.ref 93) Value.none 0)) #[]),
  (100, Obj.mk (Value.type "code") none (Data.fields #[Value.str (Str.ofString "_siftdown") 372, Value.str (Str.ofString "_siftdown") 373, Value.str (Str.ofString "/claim/cut.py") 374, Value.int 50 0, Value.int 3 0, Value.int 0 0, Value.int 0 0, Value.int 3 0, Value.ref 95, Value.bool true, Value.int 276 0, Value.ref 96, Value.none, Value.ref 97, Value.ref 98, Value.ref 99, Value.int 381 0, Value.int 50 0, Value.str (Str.ofString "/claim/cut.py") 382]) #[]),
  (101, Obj.mk (Value.type "function") none (Data.func (FuncData.mk (Str.ofString "_siftdown") (Str.ofString "_siftdown") ps_101 (FuncBody.stmts bd_101) sc_101 3 [] Value.none Value.none Value.none (Value.str (Str.ofString "cpy313.heapq") 353) none (Value.ref 100) Value.none 0)) #[]),
  (107, Obj.mk (Value.type "code") none (Data.fields #[Value.str (Str.ofString "_siftup") 384, Value.str (Str.ofString "_siftup") 385, Value.str (Str.ofString "/claim/cut.py") 386, Value.int 61 0, Value.int 2 0, Value.int 0 0, Value.int 0 0, Value.int 3 0, Value.ref 102, Value.bool true, Value.int 276 0, Value.ref 103, Value.none, Value.ref 104, Value.ref 105, Value.ref 106, Value.int 394 0, Value.int 61 0, Value.str (Str.ofString "/claim/cut.py") 395]) #[]),
  (108, Obj.mk (Value.type "function") none (Data.func (FuncData.mk (Str.ofString "_siftup") (Str.ofString "_siftup") ps_108 (FuncBody.stmts bd_108) sc_108 3 [] Value.none Value.none Value.none (Value.str (Str.ofString "cpy313.heapq") 353) none (Value.ref 107) Value.none 0)) #[]),
  (117, Obj.mk (Value.type "tuple") none (Data.seq #[Value.int 14 0, Value.int 10 0, Value.int 4 0, Value.int 1 0, Value.int 1 0, Value.int 22 0, Value.int 0 0, Value.int 31 0, Value.int 16 0, Value.int 127 0, Value.int 0 0, Value.int 13 0, Value.int 7 0, Value.int 22 0, Value.int 0 0, Value.int 31 0, Value.int 16 0, Value.int 127 0, Value.int 0 0, Value.int 1 0]) #[]),
  (118, Obj.mk (Value.type "re.Pattern") none (Data.fields #[Value.str (Str.ofString "[\\x00-\\x1F\\x7F]") 434, Value.int 32 457, Value.int 0 0, Value.none, Value.none, Value.ref 117, Value.int 0 0]) #[]),
  (122, Obj.mk (Value.type "tuple") none (Data.seq #[Value.int 14 0, Value.int 14 0, Value.int 4 0, Value.int 1 0, Value.int 1 0, Value.int 9 0, Value.int 4294966783 0, Value.int 0 0, Value.int 0 0, Value.int 2147483648 0, Value.int 0 0, Value.int 0 0, Value.int 0 0, Value.int 0 0, Value.int 0 0, Value.int 13 0, Value.int 11 0, Value.int 9 0, Value.int 4294966783 0, Value.int 0 0, Value.int 0 0, Value.int 2147483648 0, Value.int 0 0, Value.int 0 0, Value.int 0 0, Value.int 0 0, Value.int 0 0, Value.int 1 0]) #[]),
  (123, Obj.mk (Value.type "re.Pattern") none (Data.fields #[Value.str (Str.ofString "[\\x00-\\x08\\x0A-\\x1F\\x7F]") 460, Value.int 32 491, Value.int 0 0, Value.none, Value.none, Value.ref 122, Value.int 0 0]) #[]),
  (139, Obj.mk (Value.type "tuple") none (Data.seq #[Value.none]) #[]),
  (145, Obj.mk (Value.type "code") none (Data.fields #[Value.str (Str.ofString "__init__") 515, Value.str (Str.ofString "Headers.__init__") 516, Value.str (Str.ofString "/claim/cut.py") 517, Value.int 90 0, Value.int 2 0, Value.int 0 0, Value.int 0 0, Value.int 3 0, Value.ref 140, Value.bool true, Value.int 276 0, Value.ref 141, Value.none, Value.ref 142, Value.ref 143, Value.ref 144, Value.int 522 0, Value.int 90 0, Value.str (Str.ofString "/claim/cut.py") 523]) #[]),
  (146, Obj.mk (Value.type "function") none (Data.func (FuncData.mk (Str.ofString "__init__") (Str.ofString "Headers.__init__") ps_146 (FuncBody.stmts bd_146) sc_146 3 [] (Value.ref 139) Value.none Value.none (Value.str (Str.ofString "cpy313.wsgiref.headers") 397) none (Value.ref 145) Value.none 0)) #[]),
  (152, Obj.mk (Value.type "code") none (Data.fields #[Value.str (Str.ofString "_convert_string_type") 525, Value.str (Str.ofString "Headers._convert_string_type") 526, Value.str (Str.ofString "/claim/cut.py") 527, Value.int 100 0, Value.int 2 0, Value.int 0 0, Value.int 1 0, Value.int 3 0, Value.ref 147, Value.bool true, Value.int 276 0, Value.ref 148, Value.none, Value.ref 149, Value.ref 150, Value.ref 151, Value.int 532 0, Value.int 100 0, Value.str (Str.ofString "/claim/cut.py") 533]) #[]),
  (153, Obj.mk (Value.type "function") none (Data.func (FuncData.mk (Str.ofString "_convert_string_type") (Str.ofString "Headers._convert_string_type") ps_153 (FuncBody.stmts bd_153) sc_153 3 [] Value.none Value.none Value.none (Value.str (Str.ofString "cpy313.wsgiref.headers") 397) none (Value.ref 152) Value.none 0)) #[]),
  (190, Obj.mk (Value.type "code") none (Data.fields #[Value.str (Str.ofString "get_all") 573, Value.str (Str.ofString "Headers.get_all") 574, Value.str (Str.ofString "/claim/cut.py") 575, Value.int 125 0, Value.int 2 0, Value.int 0 0, Value.int 0 0, Value.int 3 0, Value.ref 187, Value.bool true, Value.int 276 0, Value.ref 188, Value.none, Value.none, Value.none, Value.ref 189, Value.int 576 0, Value.int 125 0, Value.str (Str.ofString "/claim/cut.py") 577]) #[]),
  (191, Obj.mk (Value.type "function") none (Data.func (FuncData.mk (Str.ofString "get_all") (Str.ofString "Headers.get_all") ps_191 (FuncBody.stmts bd_191) sc_191 3 [] Value.none Value.none Value.none (Value.str (Str.ofString "cpy313.wsgiref.headers") 397) none (Value.ref 190) Value.none 0)) #[]),
  (203, Obj.mk (Value.type "code") none (Data.fields #[Value.str (Str.ofString "keys") 590, Value.str (Str.ofString "Headers.keys") 591, Value.str (Str.ofString "/claim/cut.py") 592, Value.int 136 0, Value.int 1 0, Value.int 0 0, Value.int 0 0, Value.int 3 0, Value.ref 200, Value.bool true, Value.int 276 0, Value.ref 201, Value.none, Value.none, Value.none, Value.ref 202, Value.int 593 0, Value.int 136 0, Value.str (Str.ofString "/claim/cut.py") 594]) #[]),
  (204, Obj.mk (Value.type "function") none (Data.func (FuncData.mk (Str.ofString "keys") (Str.ofString "Headers.keys") ps_204 (FuncBody.stmts bd_204) sc_204 3 [] Value.none Value.none Value.none (Value.str (Str.ofString "cpy313.wsgiref.headers") 397) none (Value.ref 203) Value.none 0)) #[]),
  (215, Obj.mk (Value.type "code") none (Data.fields #[Value.str (Str.ofString "items") 602, Value.str (Str.ofString "Headers.items") 603, Value.str (Str.ofString "/claim/cut.py") 604, Value.int 142 0, Value.int 1 0, Value.int 0 0, Value.int 0 0, Value.int 3 0, Value.ref 210, Value.bool true, Value.int 276 0, Value.ref 211, Value.none, Value.ref 212, Value.ref 213, Value.ref 214, Value.int 606 0, Value.int 142 0, Value.str (Str.ofString "/claim/cut.py") 607]) #[]),
  (216, Obj.mk (Value.type "function") none (Data.func (FuncData.mk (Str.ofString "items") (Str.ofString "Headers.items") ps_216 (FuncBody.stmts bd_216) sc_216 3 [] Value.none Value.none Value.none (Value.str (Str.ofString "cpy313.wsgiref.headers") 397) none (Value.ref 215) Value.none 0)) #[]),
  (248, Obj.mk (Value.type "code") none (Data.fields #[Value.str (Str.ofString "add_header") 638, Value.str (Str.ofString "Headers.add_header") 639, Value.str (Str.ofString "/claim/cut.py") 640, Value.int 157 0, Value.int 3 0, Value.int 0 0, Value.int 0 0, Value.int 11 0, Value.ref 243, Value.bool true, Value.int 276 0, Value.ref 244, Value.none, Value.ref 245, Value.ref 246, Value.ref 247, Value.int 648 0, Value.int 157 0, Value.str (Str.ofString "/claim/cut.py") 649]) #[]),
  (249, Obj.mk (Value.type "function") none (Data.func (FuncData.mk (Str.ofString "add_header") (Str.ofString "Headers.add_header") ps_249 (FuncBody.stmts bd_249) sc_249 3 [] Value.none Value.none Value.none (Value.str (Str.ofString "cpy313.wsgiref.headers") 397) none (Value.ref 248) Value.none 0)) #[]),
  (250, Obj.mk (Value.type "tuple") none (Data.seq #[Value.str (Str.ofString "_headers") 651]) #[]),
  (251, Obj.mk (Value.type "dict") none (Data.dict #[DictEntry.mk (PyData.keyHash P (Str.ofString "__module__")) (Value.str (Str.ofString "__module__") 510) (Value.str (Str.ofString "cpy313.wsgiref.headers") 397), DictEntry.mk (PyData.keyHash P (Str.ofString "__firstlineno__")) (Value.str (Str.ofString "__firstlineno__") 514) (Value.int 88 513), DictEntry.mk (PyData.keyHash P (Str.ofString "__init__")) (Value.str (Str.ofString "__init__") 524) (Value.ref 146), DictEntry.mk (PyData.keyHash P (Str.ofString "_convert_string_type")) (Value.str (Str.ofString "_convert_string_type") 534) (Value.ref 153), DictEntry.mk (PyData.keyHash P (Str.ofString "__len__")) (Value.str (Str.ofString "__len__") 541) (Value.ref 160), DictEntry.mk (PyData.keyHash P (Str.ofString "__setitem__")) (Value.str (Str.ofString "__setitem__") 550) (Value.ref 167), DictEntry.mk (PyData.keyHash P (Str.ofString "__delitem__")) (Value.str (Str.ofString "__delitem__") 556) (Value.ref 172), DictEntry.mk (PyData.keyHash P (Str.ofString "__getitem__")) (Value.str (Str.ofString "__getitem__") 564) (Value.ref 179), DictEntry.mk (PyData.keyHash P (Str.ofString "__contains__")) (Value.str (Str.ofString "__contains__") 572) (Value.ref 186), DictEntry.mk (PyData.keyHash P (Str.ofString "get_all")) (Value.str (Str.ofString "get_all") 578) (Value.ref 191), DictEntry.mk (PyData.keyHash P (Str.ofString "get")) (Value.str (Str.ofString "get") 589) (Value.ref 199), DictEntry.mk (PyData.keyHash P (Str.ofString "keys")) (Value.str (Str.ofString "keys") 595) (Value.ref 204), DictEntry.mk (PyData.keyHash P (Str.ofString "values")) (Value.str (Str.ofString "values") 601) (Value.ref 209), DictEntry.mk (PyData.keyHash P (Str.ofString "items")) (Value.str (Str.ofString "items") 608) (Value.ref 216), DictEntry.mk (PyData.keyHash P (Str.ofString "__repr__")) (Value.str (Str.ofString "__repr__") 615) (Value.ref 223), DictEntry.mk (PyData.keyHash P (Str.ofString "__str__")) (Value.str (Str.ofString "__str__") 621) (Value.ref 228), DictEntry.mk (PyData.keyHash P (Str.ofString "__bytes__")) (Value.str (Str.ofString "__bytes__") 628) (Value.ref 235), DictEntry.mk (PyData.keyHash P (Str.ofString "setdefault")) (Value.str (Str.ofString "setdefault") 637) (Value.ref 242), DictEntry.mk (PyData.keyHash P (Str.ofString "add_header")) (Value.str (Str.ofString "add_header") 650) (Value.ref 249), DictEntry.mk (PyData.keyHash P (Str.ofString "__static_attributes__")) (Value.str (Str.ofString "__static_attributes__") 652) (Value.ref 250), DictEntry.mk (PyData.keyHash P (Str.ofString "__dict__")) (Value.str (Str.ofString "__dict__") 654) (Value.ref 253), DictEntry.mk (PyData.keyHash P (Str.ofString "__weakref__")) (Value.str (Str.ofString "__weakref__") 656) (Value.ref 254), DictEntry.mk (PyData.keyHash P (Str.ofString "__doc__")) (Value.str (Str.ofString "__doc__") 657) Value.none] 4) #[]),
  (252, Obj.mk (Value.type "type") none (Data.cls (ClassData.mk (Str.ofString "Headers") [Value.type "object"] [Value.ref 252, Value.type "object"] 251 (Str.ofString "Headers") true [] [] false none false)) #[none, none, some (Value.str (Str.ofString "Headers") 503), some (Value.str (Str.ofString "Headers") 511), some (Value.builtin "object.__new__"), some (Value.bool true)]),
  (253, Obj.mk (Value.type "getset_descriptor") none (Data.fields #[Value.str (Str.ofString "__dict__") 653, Value.ref 252, Value.builtin "function.__dict__", Value.builtin "function.__dict__#set"]) #[]),
  (254, Obj.mk (Value.type "getset_descriptor") none (Data.fields #[Value.str (Str.ofString "__weakref__") 655, Value.ref 252, Value.builtin "ExceptionGroup.__weakref__", Value.none]) #[]),
  (260, Obj.mk (Value.type "code") none (Data.fields #[Value.str (Str.ofString "_law_roads") 662, Value.str (Str.ofString "_law_roads") 663, Value.str (Str.ofString "/claim/cut.py") 664, Value.int 171 0, Value.int 1 0, Value.int 0 0, Value.int 0 0, Value.int 3 0, Value.ref 257, Value.bool true, Value.int 276 0, Value.ref 258, Value.none, Value.none, Value.none, Value.ref 259, Value.int 665 0, Value.int 171 0, Value.str (Str.ofString "/claim/cut.py") 666]) #[]),
  (261, Obj.mk (Value.type "function") none (Data.func (FuncData.mk (Str.ofString "_law_roads") (Str.ofString "_law_roads") ps_261 (FuncBody.stmts bd_261) sc_261 3 [] Value.none Value.none Value.none (Value.str (Str.ofString "law_pg0272_01") 660) none (Value.ref 260) Value.none 0)) #[]),
  (265, Obj.mk (Value.type "code") none (Data.fields #[Value.str (Str.ofString "_law_pieces") 668, Value.str (Str.ofString "_law_pieces") 669, Value.str (Str.ofString "/claim/cut.py") 670, Value.int 174 0, Value.int 1 0, Value.int 0 0, Value.int 0 0, Value.int 3 0, Value.ref 262, Value.bool true, Value.int 276 0, Value.ref 263, Value.none, Value.none, Value.none, Value.ref 264, Value.int 671 0, Value.int 174 0, Value.str (Str.ofString "/claim/cut.py") 672]) #[]),
  (266, Obj.mk (Value.type "function") none (Data.func (FuncData.mk (Str.ofString "_law_pieces") (Str.ofString "_law_pieces") ps_266 (FuncBody.stmts bd_266) sc_266 3 [] Value.none Value.none Value.none (Value.str (Str.ofString "law_pg0272_01") 660) none (Value.ref 265) Value.none 0)) #[]),
  (270, Obj.mk (Value.type "code") none (Data.fields #[Value.str (Str.ofString "_law_walk") 674, Value.str (Str.ofString "_law_walk") 675, Value.str (Str.ofString "/claim/cut.py") 676, Value.int 185 0, Value.int 1 0, Value.int 0 0, Value.int 0 0, Value.int 3 0, Value.ref 267, Value.bool true, Value.int 276 0, Value.ref 268, Value.none, Value.none, Value.none, Value.ref 269, Value.int 677 0, Value.int 185 0, Value.str (Str.ofString "/claim/cut.py") 678]) #[]),
  (271, Obj.mk (Value.type "function") none (Data.func (FuncData.mk (Str.ofString "_law_walk") (Str.ofString "_law_walk") ps_271 (FuncBody.stmts bd_271) sc_271 3 [] Value.none Value.none Value.none (Value.str (Str.ofString "law_pg0272_01") 660) none (Value.ref 270) Value.none 0)) #[]),
  (275, Obj.mk (Value.type "code") none (Data.fields #[Value.str (Str.ofString "_law_table") 680, Value.str (Str.ofString "_law_table") 681, Value.str (Str.ofString "/claim/cut.py") 682, Value.int 203 0, Value.int 3 0, Value.int 0 0, Value.int 0 0, Value.int 3 0, Value.ref 272, Value.bool true, Value.int 276 0, Value.ref 273, Value.none, Value.none, Value.none, Value.ref 274, Value.int 683 0, Value.int 203 0, Value.str (Str.ofString "/claim/cut.py") 684]) #[]),
  (276, Obj.mk (Value.type "function") none (Data.func (FuncData.mk (Str.ofString "_law_table") (Str.ofString "_law_table") ps_276 (FuncBody.stmts bd_276) sc_276 3 [] Value.none Value.none Value.none (Value.str (Str.ofString "law_pg0272_01") 660) none (Value.ref 275) Value.none 0)) #[]),
  (280, Obj.mk (Value.type "code") none (Data.fields #[Value.str (Str.ofString "_law_covers") 686, Value.str (Str.ofString "_law_covers") 687, Value.str (Str.ofString "/claim/cut.py") 688, Value.int 214 0, Value.int 2 0, Value.int 0 0, Value.int 0 0, Value.int 3 0, Value.ref 277, Value.bool true, Value.int 276 0, Value.ref 278, Value.none, Value.none, Value.none, Value.ref 279, Value.int 689 0, Value.int 214 0, Value.str (Str.ofString "/claim/cut.py") 690]) #[]),
  (281, Obj.mk (Value.type "function") none (Data.func (FuncData.mk (Str.ofString "_law_covers") (Str.ofString "_law_covers") ps_281 (FuncBody.stmts bd_281) sc_281 3 [] Value.none Value.none Value.none (Value.str (Str.ofString "law_pg0272_01") 660) none (Value.ref 280) Value.none 0)) #[]),
  (285, Obj.mk (Value.type "code") none (Data.fields #[Value.str (Str.ofString "_law_tally") 692, Value.str (Str.ofString "_law_tally") 693, Value.str (Str.ofString "/claim/cut.py") 694, Value.int 225 0, Value.int 1 0, Value.int 0 0, Value.int 0 0, Value.int 3 0, Value.ref 282, Value.bool true, Value.int 276 0, Value.ref 283, Value.none, Value.none, Value.none, Value.ref 284, Value.int 695 0, Value.int 225 0, Value.str (Str.ofString "/claim/cut.py") 696]) #[]),
  (286, Obj.mk (Value.type "function") none (Data.func (FuncData.mk (Str.ofString "_law_tally") (Str.ofString "_law_tally") ps_286 (FuncBody.stmts bd_286) sc_286 3 [] Value.none Value.none Value.none (Value.str (Str.ofString "law_pg0272_01") 660) none (Value.ref 285) Value.none 0)) #[]),
  (290, Obj.mk (Value.type "code") none (Data.fields #[Value.str (Str.ofString "law") 698, Value.str (Str.ofString "law") 699, Value.str (Str.ofString "/claim/cut.py") 700, Value.int 231 0, Value.int 1 0, Value.int 0 0, Value.int 0 0, Value.int 3 0, Value.ref 287, Value.bool true, Value.int 276 0, Value.ref 288, Value.none, Value.none, Value.none, Value.ref 289, Value.int 701 0, Value.int 231 0, Value.str (Str.ofString "/claim/cut.py") 702]) #[]),
  (291, Obj.mk (Value.type "function") none (Data.func (FuncData.mk (Str.ofString "law") (Str.ofString "law") ps_291 (FuncBody.stmts bd_291) sc_291 3 [] Value.none Value.none Value.none (Value.str (Str.ofString "law_pg0272_01") 660) none (Value.ref 290) Value.none 0)) #[])]
noncomputable def spots : List Nat := [3, 51, 52, 58, 59, 60, 61, 62, 63, 64, 72, 73, 79, 80, 86, 87, 93, 94, 100, 101, 107, 108, 117, 118, 122, 123, 139, 145, 146, 152, 153, 190, 191, 203, 204, 215, 216, 248, 249, 250, 251, 252, 253, 254, 260, 261, 265, 266, 270, 271, 275, 276, 280, 281, 285, 286, 290, 291]
theorem spots_eq (P : Params) : spots = (laid P).map (·.1) := rfl
noncomputable abbrev hook : Hook := kHook laid spots spots_eq
theorem left : LeftO prog seat loose (fun s => xlAt seat [] s && recOk [] s) hook.obs hook.val 3490 := fun w => by
  show (openEnds treeTable prog w 3490).map (fun s => (openSeen seat loose (importedModules prog.main.body) (fun s => xlAt seat [] s && recOk [] s) true s, hook.obs s)) = some (openGood seat loose, hook.val w)
  unfold openEnds fencedOpening topFrom
  rw [PySem.W.Fast.te14082659384304107361, PySem.W.Fast.te14364793385576792824, PySem.W.Fast.te4187177175401517315, PySem.W.Fast.te5923862056798008813, PySem.W.Fast.te10274390034422433532, PySem.W.Fast.te14289696077712309145, PySem.W.Fast.te1435165496053646825]
  kernel_rfl
theorem law_said : PySem.Challenge.rw_pg0272_01.wellSaid = true := by
  rw [PySem.W.Fast.te9446332074065402090]
  kernel_rfl
end Mine

namespace Mine
open PySem PySem.W PySem.Calls PyProof.Rows

/-- abstract data: what a value is, told without a heap (val: just this value; sg: a str that a sign's drawing or a case's turn has made: its token is of this run) -/
inductive D where
  | none
  | bool (b : Bool)
  | int (i : Int)
  | str (x : Str)
  | sg (x : Str)
  | tup (ds : List D)
  | lst (ds : List D)
  | dct (es : List (Str × D))
  | rng (n : Nat)
  | items (es : List (Str × D))
  | vals (es : List (Str × D))
  | inst (C : Addr) (k : Str) (d : D)
  | st (n : Nat)
  | val (v : Value)

noncomputable abbrev tupObj (vs : List Value) (n : Nat) : Obj := { cls := .type "tuple", data := .seq vs.toArray n }
noncomputable abbrev attrObj (h : Int) (k : Str) (t : Tok) (v : Value) (n : Nat) : Obj := dictOf [{ hash := h, key := .str k t, val := v }] n
noncomputable abbrev lstObj (vs : List Value) (n : Nat) : Obj := { cls := .type "list", data := .seq vs.toArray n }

section
variable (prog : Program) (w : World)
mutual
/-- the value is this data; what it is made of lies at addresses that are not in bad -/
inductive DV (s : Shared) (bad : List Addr) : Value → D → Prop
  | none : DV s bad .none .none
  | bool (b : Bool) : DV s bad (.bool b) (.bool b)
  | int (i : Int) (t : Tok) : DV s bad (.int i t) (.int i)
  | str (x : Str) (t : Tok) : DV s bad (.str x t) (.str x)
  | sg {x : Str} {t : Tok} : 0 < t → t < s.toks → DV s bad (.str x t) (.sg x)
  | val (v : Value) : DV s bad v (.val v)
  | tup {a : Addr} {vs : List Value} {n : Nat} {ds : List D} : s.heap.get? a = some (tupObj vs n) → a ∉ bad → DVs s bad vs ds → DV s bad (.ref a) (.tup ds)
  | lst {a : Addr} {vs : List Value} {n : Nat} {ds : List D} : s.heap.get? a = some (lstObj vs n) → a ∉ bad → DVs s bad vs ds → DV s bad (.ref a) (.lst ds)
  | dct {a : Addr} {kvs : List (Str × Value)} {es : List (Str × D)} : (a == sysModules) = false → s.heap.DictOf (strKind prog w) a kvs → a ∉ bad → DKs s bad kvs es → DV s bad (.ref a) (.dct es)
  | rng {a : Addr} {n : Nat} {t u v : Tok} : IsRange s.heap a 0 n 1 t u v → a ∉ bad → DV s bad (.ref a) (.rng n)
  | items {a d : Addr} {es : List (Str × D)} : s.heap.get? a = some { cls := .type "dict_items", data := .fields #[.ref d] } → a ∉ bad → DV s bad (.ref d) (.dct es) → DV s bad (.ref a) (.items es)
  | vals {a d : Addr} {es : List (Str × D)} : s.heap.get? a = some { cls := .type "dict_values", data := .fields #[.ref d] } → a ∉ bad → DV s bad (.ref d) (.dct es) → DV s bad (.ref a) (.vals es)
  | inst {x dx C : Addr} {k : Str} {h : Int} {t : Tok} {n : Nat} {v : Value} {d : D} : s.heap.get? x = some (instObj C dx) → s.heap.get? dx = some (attrObj h k t v n) → x ∉ bad → dx ∉ bad → DV s bad v d → DV s bad (.ref x) (.inst C k d)
  | st {a : Addr} {S : Int → Bool} {n : Nat} : s.heap.SetOf (intKind prog w) a S n → a ∉ bad → DV s bad (.ref a) (.st n)
inductive DVs (s : Shared) (bad : List Addr) : List Value → List D → Prop
  | nil : DVs s bad [] []
  | cons {v : Value} {vs : List Value} {d : D} {ds : List D} : DV s bad v d → DVs s bad vs ds → DVs s bad (v :: vs) (d :: ds)
inductive DKs (s : Shared) (bad : List Addr) : List (Str × Value) → List (Str × D) → Prop
  | nil : DKs s bad [] []
  | cons {k : Str} {v : Value} {kvs : List (Str × Value)} {d : D} {es : List (Str × D)} : DV s bad v d → DKs s bad kvs es → DKs s bad ((k, v) :: kvs) ((k, d) :: es)
end

/-- from (s, bad) to (s', bad'): what is not bad stays, and stays not bad -/
structure Grow (s : Shared) (bad : List Addr) (s' : Shared) (bad' : List Addr) : Prop where
  keep : ∀ b o, b ∉ bad → s.heap.get? b = some o → s'.heap.get? b = some o
  bad : ∀ b o, s.heap.get? b = some o → b ∉ bad → b ∉ bad'
  toks : s.toks ≤ s'.toks

variable {prog w}
/-- what a value is that stands for data, told by the data's shape -/
noncomputable def DV.Is (prog : Program) (w : World) (s : Shared) (bad : List Addr) (v : Value) : D → Prop
  | .none => v = .none
  | .bool b => v = .bool b
  | .int i => ∃ t, v = .int i t
  | .str x => ∃ t, v = .str x t
  | .sg x => ∃ t, v = .str x t ∧ 0 < t ∧ t < s.toks
  | .val u => v = u
  | .tup ds => ∃ a vs n, v = .ref a ∧ s.heap.get? a = some (tupObj vs n) ∧ a ∉ bad ∧ DVs prog w s bad vs ds
  | .lst ds => ∃ a vs n, v = .ref a ∧ s.heap.get? a = some (lstObj vs n) ∧ a ∉ bad ∧ DVs prog w s bad vs ds
  | .dct es => ∃ a kvs, v = .ref a ∧ (a == sysModules) = false ∧ s.heap.DictOf (strKind prog w) a kvs ∧ a ∉ bad ∧ DKs prog w s bad kvs es
  | .rng n => ∃ a t u x, v = .ref a ∧ IsRange s.heap a 0 n 1 t u x ∧ a ∉ bad
  | .items es => ∃ a d, v = .ref a ∧ s.heap.get? a = some { cls := .type "dict_items", data := .fields #[.ref d] } ∧ a ∉ bad ∧ DV prog w s bad (.ref d) (.dct es)
  | .vals es => ∃ a d, v = .ref a ∧ s.heap.get? a = some { cls := .type "dict_values", data := .fields #[.ref d] } ∧ a ∉ bad ∧ DV prog w s bad (.ref d) (.dct es)
  | .inst C k d => ∃ x dx h t n u, v = .ref x ∧ s.heap.get? x = some (instObj C dx) ∧ s.heap.get? dx = some (attrObj h k t u n) ∧ x ∉ bad ∧ dx ∉ bad ∧ DV prog w s bad u d
  | .st n => ∃ a S, v = .ref a ∧ s.heap.SetOf (intKind prog w) a S n ∧ a ∉ bad
theorem DV.is {s : Shared} {bad : List Addr} : ∀ {v : Value} {d : D}, DV prog w s bad v d → DV.Is prog w s bad v d
  | _, _, .none => rfl
  | _, _, .bool _ => rfl
  | _, _, .int _ _ => ⟨_, rfl⟩
  | _, _, .str _ _ => ⟨_, rfl⟩
  | _, _, .sg h0 h1 => ⟨_, rfl, h0, h1⟩
  | _, _, .val _ => rfl
  | _, _, .tup e nb r => ⟨_, _, _, rfl, e, nb, r⟩
  | _, _, .lst e nb r => ⟨_, _, _, rfl, e, nb, r⟩
  | _, _, .dct hm x nb r => ⟨_, _, rfl, hm, x, nb, r⟩
  | _, _, .rng e nb => ⟨_, _, _, _, rfl, e, nb⟩
  | _, _, .items e nb r => ⟨_, _, rfl, e, nb, r⟩
  | _, _, .vals e nb r => ⟨_, _, rfl, e, nb, r⟩
  | _, _, .inst e f nb nd r => ⟨_, _, _, _, _, _, rfl, e, f, nb, nd, r⟩
  | _, _, .st x nb => ⟨_, _, rfl, x, nb⟩
noncomputable def DVs.Is (prog : Program) (w : World) (s : Shared) (bad : List Addr) (vs : List Value) : List D → Prop
  | [] => vs = []
  | d :: ds => ∃ v us, vs = v :: us ∧ DV prog w s bad v d ∧ DVs prog w s bad us ds
theorem DVs.is {s : Shared} {bad : List Addr} : ∀ {vs : List Value} {ds : List D}, DVs prog w s bad vs ds → DVs.Is prog w s bad vs ds
  | _, _, .nil => rfl
  | _, _, .cons r q => ⟨_, _, rfl, r, q⟩
section
variable {s : Shared} {bad : List Addr} {v : Value} {vs : List Value} {ds : List D} {es : List (Str × D)}
theorem DV.iX {i : Int} (r : DV prog w s bad v (.int i)) : ∃ t, v = .int i t := r.is
theorem DV.sX {x : Str} (r : DV prog w s bad v (.str x)) : ∃ t, v = .str x t := r.is
theorem DV.gX {x : Str} (r : DV prog w s bad v (.sg x)) : ∃ t, v = .str x t ∧ 0 < t ∧ t < s.toks := r.is
theorem DV.nX (r : DV prog w s bad v .none) : v = .none := r.is
theorem DV.bX {b : Bool} (r : DV prog w s bad v (.bool b)) : v = .bool b := r.is
theorem DV.vX {u : Value} (r : DV prog w s bad v (.val u)) : v = u := r.is
theorem DV.tX (r : DV prog w s bad v (.tup ds)) : ∃ a vs n, v = .ref a ∧ s.heap.get? a = some (tupObj vs n) ∧ a ∉ bad ∧ DVs prog w s bad vs ds := r.is
theorem DV.lX (r : DV prog w s bad v (.lst ds)) : ∃ a vs n, v = .ref a ∧ s.heap.get? a = some (lstObj vs n) ∧ a ∉ bad ∧ DVs prog w s bad vs ds := r.is
theorem DV.dX (r : DV prog w s bad v (.dct es)) : ∃ a kvs, v = .ref a ∧ (a == sysModules) = false ∧ s.heap.DictOf (strKind prog w) a kvs ∧ a ∉ bad ∧ DKs prog w s bad kvs es := r.is
theorem DV.rX {n : Nat} (r : DV prog w s bad v (.rng n)) : ∃ a t u x, v = .ref a ∧ IsRange s.heap a 0 n 1 t u x ∧ a ∉ bad := r.is
theorem DV.isX (r : DV prog w s bad v (.items es)) : ∃ a d, v = .ref a ∧ s.heap.get? a = some { cls := .type "dict_items", data := .fields #[.ref d] } ∧ a ∉ bad ∧ DV prog w s bad (.ref d) (.dct es) := r.is
theorem DV.vsX (r : DV prog w s bad v (.vals es)) : ∃ a d, v = .ref a ∧ s.heap.get? a = some { cls := .type "dict_values", data := .fields #[.ref d] } ∧ a ∉ bad ∧ DV prog w s bad (.ref d) (.dct es) := r.is
theorem DV.nstX {C : Addr} {k : Str} {d : D} (r : DV prog w s bad v (.inst C k d)) : ∃ x dx h t n u, v = .ref x ∧ s.heap.get? x = some (instObj C dx) ∧ s.heap.get? dx = some (attrObj h k t u n) ∧ x ∉ bad ∧ dx ∉ bad ∧ DV prog w s bad u d := r.is
theorem DV.stX {n : Nat} (r : DV prog w s bad v (.st n)) : ∃ a S, v = .ref a ∧ s.heap.SetOf (intKind prog w) a S n ∧ a ∉ bad := r.is
theorem DVs.zX (r : DVs prog w s bad vs []) : vs = [] := r.is
theorem DVs.cX {d : D} (r : DVs prog w s bad vs (d :: ds)) : ∃ v us, vs = v :: us ∧ DV prog w s bad v d ∧ DVs prog w s bad us ds := r.is
end
theorem dictAt {h h' : Heap} {a : Addr} {kvs : List (Str × Value)} (x : h.DictOf (strKind prog w) a kvs) : ∃ o, h.get? a = some o ∧ (h'.get? a = some o → h'.DictOf (strKind prog w) a kvs) :=
  let ⟨o, es, ep, ho, r⟩ := x
  ⟨o, ho, fun e => ⟨o, es, ep, e, r⟩⟩
mutual
theorem DV.grow {s s' : Shared} {bad bad' : List Addr} (g : Grow s bad s' bad') : ∀ {v : Value} {d : D}, DV prog w s bad v d → DV prog w s' bad' v d
  | _, _, .none => .none
  | _, _, .bool b => .bool b
  | _, _, .int i t => .int i t
  | _, _, .str x t => .str x t
  | _, _, .sg h0 h1 => .sg h0 (Nat.lt_of_lt_of_le h1 g.toks)
  | _, _, .val v => .val v
  | _, _, .tup e nb r => .tup (g.keep _ _ nb e) (g.bad _ _ e nb) (DVs.grow g r)
  | _, _, .lst e nb r => .lst (g.keep _ _ nb e) (g.bad _ _ e nb) (DVs.grow g r)
  | _, _, .dct hm x nb r => by
    obtain ⟨o, ho, hx⟩ := dictAt (h' := s'.heap) x
    exact .dct hm (hx (g.keep _ _ nb ho)) (g.bad _ _ ho nb) (DKs.grow g r)
  | _, _, .rng e nb => .rng (g.keep _ _ nb e) (g.bad _ _ e nb)
  | _, _, .items e nb r => .items (g.keep _ _ nb e) (g.bad _ _ e nb) (DV.grow g r)
  | _, _, .vals e nb r => .vals (g.keep _ _ nb e) (g.bad _ _ e nb) (DV.grow g r)
  | _, _, .st x nb => by
    obtain ⟨o, es, ep, t, ho, r⟩ := x
    exact .st ⟨o, es, ep, t, g.keep _ _ nb ho, r⟩ (g.bad _ _ ho nb)
  | _, _, .inst e f nb nd r => .inst (g.keep _ _ nb e) (g.keep _ _ nd f) (g.bad _ _ e nb) (g.bad _ _ f nd) (DV.grow g r)
theorem DVs.grow {s s' : Shared} {bad bad' : List Addr} (g : Grow s bad s' bad') : ∀ {vs : List Value} {ds : List D}, DVs prog w s bad vs ds → DVs prog w s' bad' vs ds
  | _, _, .nil => .nil
  | _, _, .cons x r => .cons (DV.grow g x) (DVs.grow g r)
theorem DKs.grow {s s' : Shared} {bad bad' : List Addr} (g : Grow s bad s' bad') : ∀ {vs : List (Str × Value)} {ds : List (Str × D)}, DKs prog w s bad vs ds → DKs prog w s' bad' vs ds
  | _, _, .nil => .nil
  | _, _, .cons x r => .cons (DV.grow g x) (DKs.grow g r)
end

/-- an optional value -/
inductive OV (prog : Program) (w : World) (s : Shared) (bad : List Addr) : Option Value → Option D → Prop
  | none : OV prog w s bad none none
  | some {v : Value} {d : D} : DV prog w s bad v d → OV prog w s bad (some v) (some d)
theorem OV.grow {s s' : Shared} {bad bad' : List Addr} (g : Grow s bad s' bad') {v : Option Value} {d : Option D} (x : OV prog w s bad v d) : OV prog w s' bad' v d := by
  cases x with
  | none => exact .none
  | some x => exact .some (x.grow g)

/-- an object that the call has made and may still turn -/
inductive Ob where
  | ns (names : List Str) (vals : List (Option D))
  | list (ds : List D)
  | dict (es : List (Str × D))
  | cell (d : Option D)
  | one (k : Str) (d : D)
  | obj (o : Obj)

noncomputable def NsAre (prog : Program) (w : World) (s : Shared) (bad : List Addr) (m : Str → Option Value) (names : List Str) (vals : List (Option D)) : Prop :=
  names.Nodup ∧ vals.length = names.length ∧ ∀ (i : Nat) (x : Str) (d : Option D), names[i]? = some x → vals[i]? = some d → OV prog w s bad (m x) d

noncomputable def Holds (prog : Program) (w : World) (s : Shared) (bad : List Addr) (a : Addr) : Ob → Prop
  | .ns names vals => ∃ m, s.heap.Ns a m ∧ NsAre prog w s bad m names vals
  | .list ds => ∃ vs n, s.heap.get? a = some (lstObj vs n) ∧ DVs prog w s bad vs ds
  | .dict es => (a == sysModules) = false ∧ ∃ kvs, s.heap.DictOf (strKind prog w) a kvs ∧ DKs prog w s bad kvs es
  | .cell d => ∃ v o, s.heap.get? a = some o ∧ o.data = .cell v ∧ OV prog w s bad v d
  | .one k d => ∃ h t v n, s.heap.get? a = some (attrObj h k t v n) ∧ DV prog w s bad v d
  | .obj o => s.heap.get? a = some o ∧ o.isFreed = false

theorem Holds.get {s : Shared} {bad : List Addr} {a : Addr} {b : Ob} (x : Holds prog w s bad a b) : ∃ o, s.heap.get? a = some o := by
  cases b with
  | ns names vals => obtain ⟨m, ⟨o, _, _, ho, _⟩, _⟩ := x; exact ⟨o, ho⟩
  | list ds => obtain ⟨_, _, ho, _⟩ := x; exact ⟨_, ho⟩
  | dict es => obtain ⟨_, _, ⟨o, _, _, ho, _⟩, _⟩ := x; exact ⟨o, ho⟩
  | cell d => obtain ⟨_, o, ho, _⟩ := x; exact ⟨o, ho⟩
  | one k d => obtain ⟨_, _, _, _, ho, _⟩ := x; exact ⟨_, ho⟩
  | obj o => exact ⟨_, x.1⟩

theorem Holds.grow {s s' : Shared} {bad bad' : List Addr} {a : Addr} {b : Ob} (g : Grow s bad s' bad') (e : ∀ o, s.heap.get? a = some o → s'.heap.get? a = some o) (x : Holds prog w s bad a b) : Holds prog w s' bad' a b := by
  cases b with
  | ns names vals =>
    obtain ⟨m, hn, hnd, hl, ha⟩ := x
    exact ⟨m, hn.at' e, hnd, hl, fun i y d h1 h2 => (ha i y d h1 h2).grow g⟩
  | list ds =>
    obtain ⟨vs, n, ho, hv⟩ := x
    exact ⟨vs, n, e _ ho, hv.grow g⟩
  | dict es =>
    obtain ⟨hm, kvs, hd, hv⟩ := x
    obtain ⟨o, ho, hx⟩ := dictAt (h' := s'.heap) hd
    exact ⟨hm, kvs, hx (e _ ho), hv.grow g⟩
  | cell d =>
    obtain ⟨v, o, ho, hd, hv⟩ := x
    exact ⟨v, o, e _ ho, hd, hv.grow g⟩
  | one k d =>
    obtain ⟨h, t, v, n, ho, hv⟩ := x
    exact ⟨h, t, v, n, e _ ho, hv.grow g⟩
  | obj o => exact ⟨e _ x.1, x.2⟩

noncomputable abbrev Sig := List (Addr × Ob)
noncomputable abbrev adrs (σ : Sig) : List Addr := σ.map (·.1)

/-- the state: the base heap is kept; what the call has made and may turn is told by σ; X is owned by others -/
structure St (prog : Program) (w : World) (B : Heap) (X : List Addr) (σ : Sig) (s : Shared) : Prop where
  keep : ∀ b o, B.get? b = some o → s.heap.get? b = some o
  nodup : (adrs σ).Nodup
  apart : ∀ a ∈ adrs σ, a ∉ X
  xold : ∀ a ∈ X, ∃ o, s.heap.get? a = some o
  fresh : ∀ a ∈ adrs σ, B.get? a = none
  hold : ∀ p ∈ σ, Holds prog w s (X ++ adrs σ) p.1 p.2
  toks : 0 < s.toks
  mods : ∃ a o, sysModules ≤ a ∧ B.get? a = some o

structure Step (σ τ : Sig) (s s' : Shared) : Prop where
  rest : s' = { s with heap := s'.heap, toks := s'.toks }
  ext : ∀ b o, b ∉ adrs σ → s.heap.get? b = some o → s'.heap.get? b = some o
  new : ∀ a ∈ adrs τ, a ∈ adrs σ ∨ s.heap.get? a = none
  toks : s.toks ≤ s'.toks

theorem Step.refl (σ : Sig) (s : Shared) : Step σ σ s s := ⟨rfl, fun _ _ _ e => e, fun _ h => .inl h, Nat.le_refl _⟩
theorem Step.trans {σ τ υ : Sig} {s s' s'' : Shared} (x : Step σ τ s s') (y : Step τ υ s' s'') : Step σ υ s s'' := by
  refine ⟨by rw [y.rest, x.rest], fun b o hb e => ?_, fun a ha => ?_, Nat.le_trans x.toks y.toks⟩
  · refine y.ext b o (fun hm => ?_) (x.ext b o hb e)
    rcases x.new b hm with h | h
    · exact hb h
    · rw [h] at e; cases e
  · rcases y.new a ha with h | h
    · exact x.new a h
    · by_cases hm : a ∈ adrs σ
      · exact .inl hm
      · cases q : s.heap.get? a with
        | none => exact .inr rfl
        | some o => rw [x.ext a o hm q] at h; cases h

theorem Step.grow {σ τ : Sig} {s s' : Shared} (x : Step σ τ s s') (X : List Addr) : Grow s (X ++ adrs σ) s' (X ++ adrs τ) := by
  refine ⟨fun b o hb e => x.ext b o (fun h => hb (List.mem_append.mpr (.inr h))) e, fun b o e hb hm => ?_, x.toks⟩
  rcases List.mem_append.mp hm with h | h
  · exact hb (List.mem_append.mpr (.inl h))
  · rcases x.new b h with h | h
    · exact hb (List.mem_append.mpr (.inr h))
    · rw [h] at e; cases e

theorem St.has {B : Heap} {X : List Addr} {σ : Sig} {s : Shared} (S : St prog w B X σ s) {a : Addr} (ha : a ∈ adrs σ) : ∃ o, s.heap.get? a = some o := by
  obtain ⟨p, hp, rfl⟩ := List.mem_map.mp ha
  exact (S.hold p hp).get
theorem St.lt {B : Heap} {X : List Addr} {σ : Sig} {s : Shared} (S : St prog w B X σ s) {a : Addr} (ha : a ∈ adrs σ) : a < s.heap.objs.size := by
  obtain ⟨o, ho⟩ := S.has ha
  exact Heap.lt_size ho

/-- what a tree's end is to be -/
noncomputable def Post {α β : Type} (prog : Program) (w : World) (B : Heap) (X : List Addr) (σ : Sig) (s : Shared) (rep : Shared → List Addr → α → β → Prop) (Q : β → Sig → Prop) (v : α) (s' : Shared) : Prop :=
  ∃ b τ, Q b τ ∧ rep s' (X ++ adrs τ) v b ∧ St prog w B X τ s' ∧ Step σ τ s s'

theorem Post.after {α β : Type} {B : Heap} {X : List Addr} {σ τ : Sig} {s s₁ s' : Shared} {rep : Shared → List Addr → α → β → Prop} {Q : β → Sig → Prop} {v : α} (x : Step σ τ s s₁)
    (p : Post prog w B X τ s₁ rep Q v s') : Post prog w B X σ s rep Q v s' :=
  let ⟨b, υ, q, r, S, y⟩ := p; ⟨b, υ, q, r, S, x.trans y⟩

noncomputable abbrev noE : Value → Shared → Prop := fun _ _ => False

noncomputable def eqR {α : Type} (_ : Shared) (_ : List Addr) (a b : α) : Prop := a = b
/-- how a statement leaves -/
inductive Fl where
  | next
  | brk
  | cont
  | ret (d : D)
inductive FR (prog : Program) (w : World) (s : Shared) (bad : List Addr) : Flow → Fl → Prop
  | next : FR prog w s bad .next .next
  | brk : FR prog w s bad .brk .brk
  | cont : FR prog w s bad .cont .cont
  | ret {v : Value} {d : D} : DV prog w s bad v d → FR prog w s bad (.ret v) (.ret d)
end
end Mine

namespace Mine
open PySem PySem.W PySem.Calls PyProof.Rows

/-- the state with the object at a to be put in -/
inductive Hole (a : Addr) : Ob → Sig → (Ob → Sig) → Prop
  | head {ob : Ob} {r : Sig} : Hole a ob ((a, ob) :: r) (fun x => (a, x) :: r)
  | tail {ob : Ob} {p : Addr × Ob} {r : Sig} {f : Ob → Sig} : Hole a ob r f → Hole a ob (p :: r) (fun x => p :: f x)

namespace Hole
variable {a : Addr} {ob : Ob} {σ : Sig} {f : Ob → Sig}
theorem eq (H : Hole a ob σ f) : σ = f ob := by
  induction H with
  | head => rfl
  | tail _ ih => exact congrArg _ ih
theorem again (H : Hole a ob σ f) (x : Ob) : Hole a x (f x) f := by
  induction H with
  | head => exact .head
  | tail _ ih => exact .tail ih
theorem mem (H : Hole a ob σ f) : (a, ob) ∈ σ := by
  induction H with
  | head => exact .head _
  | tail _ ih => exact .tail _ ih
theorem adrs_eq (H : Hole a ob σ f) (x : Ob) : adrs (f x) = adrs σ := by
  induction H with
  | head => rfl
  | @tail p r f H ih => exact congrArg (p.1 :: ·) ih
theorem others (H : Hole a ob σ f) (hn : (adrs σ).Nodup) (x : Ob) : ∀ p ∈ f x, p = (a, x) ∨ (p ∈ σ ∧ p.1 ≠ a) := by
  induction H with
  | @head r =>
    intro p hp
    rcases List.mem_cons.mp hp with h | h
    · exact .inl h
    · refine .inr ⟨.tail _ h, fun e => ?_⟩
      exact (List.nodup_cons.mp hn).1 (by show a ∈ adrs r; rw [← e]; exact List.mem_map_of_mem (f := (·.1)) h)
  | @tail q r f H ih =>
    intro p hp
    have hn' := List.nodup_cons.mp hn
    rcases List.mem_cons.mp hp with h | h
    · subst h
      refine .inr ⟨.head _, fun e => hn'.1 ?_⟩
      show p.1 ∈ adrs r
      rw [e]; exact List.mem_map_of_mem (f := (·.1)) H.mem
    · rcases ih hn'.2 p h with h | h
      · exact .inl h
      · exact .inr ⟨.tail _ h.1, h.2⟩
theorem perm (H : Hole a ob σ f) : ∃ rest : Sig, ∀ x, (f x).Perm ((a, x) :: rest) := by
  induction H with
  | @head r => exact ⟨r, fun _ => .refl _⟩
  | @tail p r f H ih =>
    obtain ⟨rest, h⟩ := ih
    exact ⟨p :: rest, fun x => ((h x).cons p).trans (.swap ..)⟩
end Hole

section
variable {prog : Program} {w : World} {B : Heap} {X : List Addr} {σ τ : Sig} {s s' : Shared} {a : Addr} {ob ob' : Ob}

theorem Grow.refl {bad bad' : List Addr} (e : ∀ b, b ∈ bad' → b ∈ bad) : Grow s bad s bad' := ⟨fun _ _ _ e => e, fun b _ _ hb hm => hb (e b hm), Nat.le_refl _⟩

theorem St.set {f : Ob → Sig} (S : St prog w B X σ s) (H : Hole a ob σ f) (hs : ∀ b o, b ≠ a → s.heap.get? b = some o → s'.heap.get? b = some o) (ht : s.toks ≤ s'.toks)
    (hx : Holds prog w s' (X ++ adrs σ) a ob') : St prog w B X (f ob') s' := by
  have ha : a ∈ adrs σ := List.mem_map_of_mem (f := (·.1)) H.mem
  have g : Grow s (X ++ adrs σ) s' (X ++ adrs σ) := ⟨fun b o hb e => hs b o (fun q => hb (q ▸ List.mem_append.mpr (.inr ha))) e, fun _ _ _ hb => hb, ht⟩
  refine ⟨fun b o e => hs b o (fun q => ?_) (S.keep b o e), by rw [H.adrs_eq]; exact S.nodup, by rw [H.adrs_eq]; exact S.apart, fun b hb => (S.xold b hb).imp fun o e => hs b o (fun q => S.apart a ha (q ▸ hb)) e, by rw [H.adrs_eq]; exact S.fresh, ?_, Nat.lt_of_lt_of_le S.toks ht, S.mods⟩
  · subst q; rw [S.fresh _ ha] at e; cases e
  · rw [H.adrs_eq]
    intro p hp
    rcases H.others S.nodup ob' p hp with rfl | ⟨hm, hne⟩
    · exact hx
    · exact (S.hold p hm).grow g fun o e => hs _ o hne e
theorem St.ext (S : St prog w B X σ s) (hk : ∀ b o, s.heap.get? b = some o → s'.heap.get? b = some o) (ht : s.toks ≤ s'.toks) : St prog w B X σ s' := by
  refine ⟨fun b o e => hk b o (S.keep b o e), S.nodup, S.apart, fun b hb => (S.xold b hb).imp fun o e => hk b o e, S.fresh, fun p hp => ?_, Nat.lt_of_lt_of_le S.toks ht, S.mods⟩
  exact (S.hold p hp).grow ⟨fun b o _ e => hk b o e, fun _ _ _ hb => hb, ht⟩ fun o e => hk _ o e
theorem St.push (S : St prog w B X σ s) (hk : ∀ b o, s.heap.get? b = some o → s'.heap.get? b = some o) (ht : s.toks ≤ s'.toks) (ha : s.heap.get? a = none)
    (hx : Holds prog w s' (X ++ adrs ((a, ob) :: σ)) a ob) : St prog w B X ((a, ob) :: σ) s' := by
  have hna : ∀ b o, s.heap.get? b = some o → b ≠ a := fun b o e q => by rw [q, ha] at e; cases e
  have g : Grow s (X ++ adrs σ) s' (X ++ adrs ((a, ob) :: σ)) := by
    refine ⟨fun b o _ e => hk b o e, fun b o e hb hm => ?_, ht⟩
    rcases List.mem_append.mp hm with q | q
    · exact hb (List.mem_append.mpr (.inl q))
    · rcases List.mem_cons.mp q with q | q
      · exact hna b o e q
      · exact hb (List.mem_append.mpr (.inr q))
  refine ⟨fun b o e => hk b o (S.keep b o e), List.nodup_cons.mpr ⟨fun hm => (S.has hm).elim fun o e => hna _ o e rfl, S.nodup⟩, ?_, fun b hb => (S.xold b hb).imp fun o e => hk b o e, ?_, ?_, Nat.lt_of_lt_of_le S.toks ht, S.mods⟩
  · intro b hb
    rcases List.mem_cons.mp hb with rfl | hb
    · exact fun hm => (S.xold _ hm).elim fun o e => hna _ o e rfl
    · exact S.apart b hb
  · intro b hb
    rcases List.mem_cons.mp hb with rfl | hb
    · cases q : B.get? b with
      | none => rfl
      | some o => exact absurd rfl (hna _ _ (S.keep _ _ q))
    · exact S.fresh b hb
  · intro p hp
    rcases List.mem_cons.mp hp with rfl | hp
    · exact hx
    · exact (S.hold p hp).grow g fun o e => hk _ o e
theorem St.drop {p : Addr × Ob} (S : St prog w B X (p :: σ) s) : St prog w B X σ s := by
  refine ⟨S.keep, (List.nodup_cons.mp S.nodup).2, fun a ha => S.apart a (.tail _ ha), S.xold, fun a ha => S.fresh a (.tail _ ha), fun q hq => (S.hold q (.tail _ hq)).grow (Grow.refl fun b hb => ?_) fun _ e => e, S.toks, S.mods⟩
  rcases List.mem_append.mp hb with h | h
  · exact List.mem_append.mpr (.inl h)
  · exact List.mem_append.mpr (.inr (.tail _ h))
theorem St.perm (S : St prog w B X σ s) (p : σ.Perm τ) : St prog w B X τ s := by
  have pa : (adrs σ).Perm (adrs τ) := p.map _
  refine ⟨S.keep, pa.nodup_iff.mp S.nodup, fun a ha => S.apart a (pa.mem_iff.mpr ha), S.xold, fun a ha => S.fresh a (pa.mem_iff.mpr ha), fun q hq => (S.hold q (p.mem_iff.mpr hq)).grow (Grow.refl fun b hb => ?_) fun _ e => e, S.toks, S.mods⟩
  rcases List.mem_append.mp hb with h | h
  · exact List.mem_append.mpr (.inl h)
  · exact List.mem_append.mpr (.inr (pa.mem_iff.mpr h))
theorem St.lend {ρ : Sig} (S : St prog w B X (ρ ++ σ) s) : St prog w B (adrs ρ ++ X) σ s := by
  have e : adrs (ρ ++ σ) = adrs ρ ++ adrs σ := List.map_append ..
  have nd := S.nodup
  rw [e, List.nodup_append] at nd
  refine ⟨S.keep, nd.2.1, fun a ha hm => ?_, fun a ha => ?_, fun a ha => S.fresh a (by rw [e]; exact List.mem_append.mpr (.inr ha)), fun q hq => (S.hold q (List.mem_append.mpr (.inr hq))).grow (Grow.refl fun b hb => ?_) fun _ e => e, S.toks, S.mods⟩
  · rcases List.mem_append.mp hm with q | q
    · exact nd.2.2 a q a ha rfl
    · exact S.apart a (by rw [e]; exact List.mem_append.mpr (.inr ha)) q
  · rcases List.mem_append.mp ha with q | q
    · exact S.has (by rw [e]; exact List.mem_append.mpr (.inl q))
    · exact S.xold a q
  · rw [e]
    rcases List.mem_append.mp hb with h | h
    · rcases List.mem_append.mp h with h | h
      · exact List.mem_append.mpr (.inr (List.mem_append.mpr (.inl h)))
      · exact List.mem_append.mpr (.inl h)
    · exact List.mem_append.mpr (.inr (List.mem_append.mpr (.inr h)))
theorem St.back {ρ : Sig} (S₀ : St prog w B X (ρ ++ σ) s) (x : Step σ τ s s') (S : St prog w B (adrs ρ ++ X) τ s') : St prog w B X (ρ ++ τ) s' ∧ Step (ρ ++ σ) (ρ ++ τ) s s' := by
  have e : ∀ σ : Sig, adrs (ρ ++ σ) = adrs ρ ++ adrs σ := fun σ => List.map_append ..
  have nd := S₀.nodup
  rw [e, List.nodup_append] at nd
  have st : Step (ρ ++ σ) (ρ ++ τ) s s' := by
    refine ⟨x.rest, fun b o hb q => x.ext b o (fun hm => hb (by rw [e]; exact List.mem_append.mpr (.inr hm))) q, fun a ha => ?_, x.toks⟩
    rw [e] at ha ⊢
    rcases List.mem_append.mp ha with h | h
    · exact .inl (List.mem_append.mpr (.inl h))
    · rcases x.new a h with h | h
      · exact .inl (List.mem_append.mpr (.inr h))
      · exact .inr h
  refine ⟨⟨S.keep, ?_, ?_, fun b hb => S.xold b (List.mem_append.mpr (.inr hb)), ?_, ?_, S.toks, S.mods⟩, st⟩
  · rw [e, List.nodup_append]
    exact ⟨nd.1, S.nodup, fun a ha b hb q => S.apart b hb (List.mem_append.mpr (.inl (q ▸ ha)))⟩
  · intro a ha
    rw [e] at ha
    rcases List.mem_append.mp ha with h | h
    · exact S₀.apart a (by rw [e]; exact List.mem_append.mpr (.inl h))
    · exact fun hm => S.apart a h (List.mem_append.mpr (.inr hm))
  · intro a ha
    rw [e] at ha
    rcases List.mem_append.mp ha with h | h
    · exact S₀.fresh a (by rw [e]; exact List.mem_append.mpr (.inl h))
    · exact S.fresh a h
  · intro p hp
    rcases List.mem_append.mp hp with h | h
    · refine (S₀.hold p (List.mem_append.mpr (.inl h))).grow (st.grow X) fun o q => x.ext _ o (fun hm => ?_) q
      exact nd.2.2 p.1 (List.mem_map_of_mem (f := (·.1)) h) p.1 hm rfl
    · refine (S.hold p h).grow (Grow.refl fun b hb => ?_) fun _ e => e
      rw [e] at hb
      rcases List.mem_append.mp hb with h | h
      · exact List.mem_append.mpr (.inl (List.mem_append.mpr (.inr h)))
      · rcases List.mem_append.mp h with h | h
        · exact List.mem_append.mpr (.inl (List.mem_append.mpr (.inl h)))
        · exact List.mem_append.mpr (.inr h)

theorem Step.perm {σ' τ' : Sig} (x : Step σ τ s s') (p : σ.Perm σ') (q : τ.Perm τ') : Step σ' τ' s s' := by
  have pa : (adrs σ).Perm (adrs σ') := p.map _
  have qa : (adrs τ).Perm (adrs τ') := q.map _
  exact ⟨x.rest, fun b o hb e => x.ext b o (fun h => hb (pa.mem_iff.mp h)) e, fun a ha => (x.new a (qa.mem_iff.mpr ha)).imp pa.mem_iff.mp id, x.toks⟩
theorem Step.set {f : Ob → Sig} (H : Hole a ob σ f) (hr : s' = { s with heap := s'.heap, toks := s'.toks }) (hs : ∀ b o, b ≠ a → s.heap.get? b = some o → s'.heap.get? b = some o) (ht : s.toks ≤ s'.toks) : Step σ (f ob') s s' :=
  ⟨hr, fun b o hb e => hs b o (fun q => hb (q ▸ List.mem_map_of_mem (f := (·.1)) H.mem)) e, fun a ha => .inl (by rw [H.adrs_eq] at ha; exact ha), ht⟩
theorem Step.ext' (hr : s' = { s with heap := s'.heap, toks := s'.toks }) (hs : ∀ b o, s.heap.get? b = some o → s'.heap.get? b = some o) (ht : s.toks ≤ s'.toks) : Step σ σ s s' :=
  ⟨hr, fun b o _ e => hs b o e, fun a ha => .inl ha, ht⟩
theorem Step.push (hr : s' = { s with heap := s'.heap, toks := s'.toks }) (hs : ∀ b o, s.heap.get? b = some o → s'.heap.get? b = some o) (ha : s.heap.get? a = none) (ht : s.toks ≤ s'.toks) : Step σ ((a, ob) :: σ) s s' :=
  ⟨hr, fun b o _ e => hs b o e, fun c hc => by rcases List.mem_cons.mp hc with rfl | hc; exact .inr ha; exact .inl hc, ht⟩
theorem Step.drop {p : Addr × Ob} (x : Step σ (p :: τ) s s') : Step σ τ s s' := ⟨x.rest, x.ext, fun a ha => x.new a (.tail _ ha), x.toks⟩
end
end Mine

namespace Mine
open PySem PySem.W PySem.Calls PyProof.Rows

/-- what stays through a walk: the program, the world, the base heap, what is around -/
structure Cx where
  prog : Program
  w : World
  B : Heap
  A : Around
noncomputable abbrev Cx.deeper (c : Cx) (env : Env) : Cx := { c with A := c.A.deeper env }
noncomputable abbrev Cx.M (c : Cx) : Model := model c.prog c.w
noncomputable abbrev Cx.St (c : Cx) (X : List Addr) (σ : Sig) (s : Shared) : Prop := Mine.St c.prog c.w c.B X σ s
noncomputable abbrev Cx.DV (c : Cx) := Mine.DV c.prog c.w
noncomputable abbrev Cx.DVs (c : Cx) := Mine.DVs c.prog c.w
noncomputable abbrev Cx.Post (c : Cx) {α β : Type} (X : List Addr) (σ : Sig) (s : Shared) (rep : Shared → List Addr → α → β → Prop) (Q : β → Sig → Prop) : α → Shared → Prop := Mine.Post c.prog c.w c.B X σ s rep Q

noncomputable def W0 (c : Cx) {α β : Type} (rep : Shared → List Addr → α → β → Prop) (t : Sem α) (σ : Sig) (Q : β → Sig → Prop) : Prop :=
  ∀ X s, c.St X σ s → wpAny c.M c.A t (c.Post X σ s rep Q) noE s
noncomputable def W1 (c : Cx) {α β : Type} (rep : Shared → List Addr → α → β → Prop) (t : Value → Sem α) (d : D) (σ : Sig) (Q : β → Sig → Prop) : Prop :=
  ∀ X s v, c.St X σ s → c.DV s (X ++ adrs σ) v d → wpAny c.M c.A (t v) (c.Post X σ s rep Q) noE s
noncomputable def W2 (c : Cx) {α β : Type} (rep : Shared → List Addr → α → β → Prop) (t : Value → Value → Sem α) (d₁ d₂ : D) (σ : Sig) (Q : β → Sig → Prop) : Prop :=
  ∀ X s v₁ v₂, c.St X σ s → c.DV s (X ++ adrs σ) v₁ d₁ → c.DV s (X ++ adrs σ) v₂ d₂ → wpAny c.M c.A (t v₁ v₂) (c.Post X σ s rep Q) noE s
noncomputable def W3 (c : Cx) {α β : Type} (rep : Shared → List Addr → α → β → Prop) (t : Value → Value → Value → Sem α) (d₁ d₂ d₃ : D) (σ : Sig) (Q : β → Sig → Prop) : Prop :=
  ∀ X s v₁ v₂ v₃, c.St X σ s → c.DV s (X ++ adrs σ) v₁ d₁ → c.DV s (X ++ adrs σ) v₂ d₂ → c.DV s (X ++ adrs σ) v₃ d₃ → wpAny c.M c.A (t v₁ v₂ v₃) (c.Post X σ s rep Q) noE s
noncomputable def WL (c : Cx) {α β : Type} (rep : Shared → List Addr → α → β → Prop) (t : List Value → Sem α) (ds : List D) (σ : Sig) (Q : β → Sig → Prop) : Prop :=
  ∀ X s vs, c.St X σ s → c.DVs s (X ++ adrs σ) vs ds → wpAny c.M c.A (t vs) (c.Post X σ s rep Q) noE s

noncomputable abbrev WE (c : Cx) (e : Expr) (env : Env) (σ : Sig) (Q : D → Sig → Prop) : Prop := W0 c c.DV (eval e env) σ Q
noncomputable abbrev WT (c : Cx) (e : Expr) (env : Env) (σ : Sig) (Q : Bool → Sig → Prop) : Prop := W0 c eqR (isTrue e env (eval e env)) σ Q
noncomputable abbrev WS (c : Cx) (st : Stmt) (env : Env) (σ : Sig) (Q : Fl → Sig → Prop) : Prop := W0 c (FR c.prog c.w) (exec st env) σ Q
noncomputable abbrev WX (c : Cx) (sts : List Stmt) (env : Env) (σ : Sig) (Q : Fl → Sig → Prop) : Prop := W0 c (FR c.prog c.w) (execs sts env) σ Q
noncomputable abbrev WI (c : Cx) (es : List Expr) (env : Env) (pos : Pos) (σ : Sig) (Q : List D → Sig → Prop) : Prop := W0 c c.DVs (spliced (backTo pos (starEach es env))) σ Q

section
variable {c : Cx} {α β α' β' : Type} {rep : Shared → List Addr → α → β → Prop} {rep' : Shared → List Addr → α' → β' → Prop} {σ τ : Sig} {X : List Addr} {s s₁ : Shared} {env : Env}

theorem W0.then {t : Sem α} {Q : β → Sig → Prop} {P : α → Shared → Prop} (h : W0 c rep t σ Q) (S : c.St X σ s)
    (k : ∀ v s₁ b τ, Q b τ → rep s₁ (X ++ adrs τ) v b → c.St X τ s₁ → Step σ τ s s₁ → P v s₁) : wpAny c.M c.A t P noE s :=
  wpAny_mono (h X s S) (fun v s₁ ⟨b, τ, q, r, S₁, x⟩ => k v s₁ b τ q r S₁ x) fun _ _ e => e
theorem Post.then {Q : β → Sig → Prop} {t : Sem α} {P : α → Shared → Prop} (h : wpAny c.M c.A t (c.Post X σ s rep Q) noE s₁)
    (k : ∀ v s₂ b τ, Q b τ → rep s₂ (X ++ adrs τ) v b → c.St X τ s₂ → Step σ τ s s₂ → P v s₂) : wpAny c.M c.A t P noE s₁ :=
  wpAny_mono h (fun v s₂ ⟨b, τ, q, r, S₁, x⟩ => k v s₂ b τ q r S₁ x) fun _ _ e => e
theorem post_of {t : Sem α} {Q : β → Sig → Prop} (x : Step σ τ s s₁) (h : wpAny c.M c.A t (c.Post X τ s₁ rep Q) noE s₁) : wpAny c.M c.A t (c.Post X σ s rep Q) noE s₁ :=
  wpAny_mono h (fun _ _ p => p.after x) fun _ _ e => e
theorem W0.mono {t : Sem α} {Q Q' : β → Sig → Prop} (h : W0 c rep t σ Q) (k : ∀ b τ, Q b τ → Q' b τ) : W0 c rep t σ Q' :=
  fun _ _ S => h.then S fun _ _ b τ q r S₁ x => ⟨b, τ, k b τ q, r, S₁, x⟩
theorem Step.tk {σ : Sig} {s : Shared} {n : Nat} (h : s.toks ≤ n) : Step σ σ s { s with toks := n } := ⟨rfl, fun _ _ _ e => e, fun _ h => .inl h, h⟩
theorem post_tk {Q : β → Sig → Prop} {v : α} {n : Nat} {b : β} (S : c.St X σ s) (h : Q b σ) (hn : s.toks ≤ n) (r : rep { s with toks := n } (X ++ adrs σ) v b) : c.Post X σ s rep Q v { s with toks := n } := ⟨b, σ, h, r, S.ext (fun _ _ e => e) hn, .tk hn⟩
theorem post_here {Q : β → Sig → Prop} {v : α} {b : β} (S : c.St X σ s) (r : rep s (X ++ adrs σ) v b) (h : Q b σ) : c.Post X σ s rep Q v s := ⟨b, σ, h, r, S, .refl ..⟩
/-- the counter of tokens never falls -/
theorem with_toks {t : Sem α} {P : α → Shared → Prop} (h : wpAny c.M c.A t (fun v s' => s.toks ≤ s'.toks → P v s') noE s) : wpAny c.M c.A t P noE s :=
  wpAny_with_toks (Nat.le_refl _) (wpAny_mono h (fun _ _ p => p) fun _ _ e => e.elim)

/-! the frame rules -/
theorem W0.frame {t : Sem α} {Q Q' : β → Sig → Prop} {σ₁ ρ : Sig} (hrep : ∀ s bad bad' v b, (∀ x, x ∈ bad' → x ∈ bad) → rep s bad v b → rep s bad' v b) (h : W0 c rep t σ₁ Q) (p : σ.Perm (ρ ++ σ₁))
    (hq : ∀ b τ₁, Q b τ₁ → ∃ τ, τ.Perm (ρ ++ τ₁) ∧ Q' b τ) : W0 c rep t σ Q' := fun X s S => by
  have S' := S.perm p
  refine h.then S'.lend fun v s₁ b τ₁ q r S₁ x => ?_
  obtain ⟨τ, pτ, q'⟩ := hq b τ₁ q
  obtain ⟨S₂, x₂⟩ := S'.back x S₁
  refine ⟨b, τ, q', hrep _ _ _ _ _ (fun y hy => ?_) r, S₂.perm pτ.symm, x₂.perm p.symm pτ.symm⟩
  rcases List.mem_append.mp hy with hy | hy
  · exact List.mem_append.mpr (.inl (List.mem_append.mpr (.inr hy)))
  · have : y ∈ adrs (ρ ++ τ₁) := (pτ.map (·.1)).mem_iff.mp hy
    rw [show adrs (ρ ++ τ₁) = adrs ρ ++ adrs τ₁ from List.map_append ..] at this
    rcases List.mem_append.mp this with hy | hy
    · exact List.mem_append.mpr (.inl (List.mem_append.mpr (.inl hy)))
    · exact List.mem_append.mpr (.inr hy)

/-! constants and names -/
theorem E_str {x : Str} {k : Nat} {pos : Pos} {Q : D → Sig → Prop} (h : Q (.str x) σ) : WE c (.Constant (.str x) k pos) env σ Q := fun _ _ S => wpAny_Constant_str (post_tk S h (Nat.le_succ _) (.str ..))
theorem E_int {x : Int} {k : Nat} {pos : Pos} {Q : D → Sig → Prop} (h : Q (.int x) σ) : WE c (.Constant (.int x) k pos) env σ Q := fun _ _ S => wpAny_Constant_int (post_tk S h (Nat.le_succ _) (.int ..))
theorem E_bool {x : Bool} {k : Nat} {pos : Pos} {Q : D → Sig → Prop} (h : Q (.bool x) σ) : WE c (.Constant (.bool x) k pos) env σ Q := fun _ _ S => wpAny_Constant_bool (post_here S (.bool ..) h)
theorem E_none {k : Nat} {pos : Pos} {Q : D → Sig → Prop} (h : Q .none σ) : WE c (.Constant .none k pos) env σ Q := fun _ _ S => wpAny_Constant_none (post_here S .none h)

/-- the name's place among the locals -/
inductive LocGet (x : Str) (d : D) : List Str → List (Option D) → Prop
  | head {ns : List Str} {vs : List (Option D)} : LocGet x d (x :: ns) (some d :: vs)
  | tail {y : Str} {o : Option D} {ns : List Str} {vs : List (Option D)} : LocGet x d ns vs → LocGet x d (y :: ns) (o :: vs)
inductive LocSet (x : Str) (d : Option D) : List Str → List (Option D) → List (Option D) → Prop
  | head {ns : List Str} {o : Option D} {vs : List (Option D)} : LocSet x d (x :: ns) (o :: vs) (d :: vs)
  | tail {y : Str} {o : Option D} {ns : List Str} {vs vs' : List (Option D)} : LocSet x d ns vs vs' → LocSet x d (y :: ns) (o :: vs) (o :: vs')
theorem LocGet.at {x : Str} {d : D} {ns : List Str} {vs : List (Option D)} (h : LocGet x d ns vs) : ∃ i : Nat, ns[i]? = some x ∧ vs[i]? = some (some d) := by
  induction h with
  | head => exact ⟨0, rfl, rfl⟩
  | tail _ ih => obtain ⟨i, a, b⟩ := ih; exact ⟨i + 1, a, b⟩
theorem LocSet.at {x : Str} {d : Option D} {ns : List Str} {vs vs' : List (Option D)} (h : LocSet x d ns vs vs') : ∃ i : Nat, ns[i]? = some x ∧ vs' = vs.set i d ∧ i < vs.length := by
  induction h with
  | head => exact ⟨0, rfl, rfl, Nat.zero_lt_succ _⟩
  | tail _ ih => obtain ⟨i, a, b, e⟩ := ih; exact ⟨i + 1, a, by rw [b]; rfl, Nat.succ_lt_succ e⟩

theorem Hole.hold {a : Addr} {ob : Ob} {f : Ob → Sig} (S : c.St X σ s) (H : Hole a ob σ f) : Holds c.prog c.w s (X ++ adrs σ) a ob := S.hold _ H.mem

theorem E_local {x : Str} {pos : Pos} {d : D} {ns : List Str} {vs : List (Option D)} {f : Ob → Sig} {Q : D → Sig → Prop} (hk : env.scope.kind = .function) (hl : env.kindOf x = some .local) (hd : (x == ("__debug__" : Str)) = false)
    {L : Addr} (H : Hole L (.ns ns vs) σ f) (hL : env.locals = L) (hx : LocGet x d ns vs) (h : Q d σ) : WE c (.Name x pos) env σ Q := fun X s S => by
  subst hL
  obtain ⟨m, hn, _, _, ha⟩ := H.hold S
  obtain ⟨i, h1, h2⟩ := hx.at
  have := ha i x _ h1 h2
  cases hm : m x with
  | none => rw [hm] at this; cases this
  | some v =>
    rw [hm] at this
    cases this with
    | some r => exact wpAny_Name (wpAny_loadName_local hk hl hn hm (post_here S r h)) hd
end
end Mine

namespace Mine
open PySem PySem.W PySem.Calls PyProof.Rows

structure Base (B : Heap) (mg mb : Str → Option Value) : Prop where
  g : B.Ns mainGlobals mg
  b : B.Ns builtinsNs mb
  nolimit : B.NoLimit

section
variable {c : Cx} {σ τ : Sig} {X : List Addr} {s s₁ : Shared} {env : Env} {mg mb : Str → Option Value}

theorem E_global {x : Str} {pos : Pos} {v : Value} {Q : D → Sig → Prop} (BO : Base c.B mg mb) (hk : env.scope.kind = .function) (hg : env.globals = mainGlobals) (hl : env.kindOf x = some .globalImplicit) (hd : (x == ("__debug__" : Str)) = false)
    (hv : mg x = some v) (h : Q (.val v) σ) : WE c (.Name x pos) env σ Q := fun X s S =>
  Name_function_global hk hl (loadGlobal_global (hg ▸ BO.g.keeps S.keep) hv (post_here S (.val _) h)) hd
theorem E_builtin {x : Str} {pos : Pos} {v : Value} {Q : D → Sig → Prop} (BO : Base c.B mg mb) (hk : env.scope.kind = .function) (hg : env.globals = mainGlobals) (hb : env.builtins = builtinsNs) (hl : env.kindOf x = some .globalImplicit) (hd : (x == ("__debug__" : Str)) = false)
    (hm : mg x = none) (hv : mb x = some v) (h : Q (.val v) σ) : WE c (.Name x pos) env σ Q := fun X s S =>
  Name_function_global hk hl (loadGlobal_builtin (hg ▸ BO.g.keeps S.keep) hm (hb ▸ BO.b.keeps S.keep) hv (post_here S (.val _) h)) hd
theorem E_cell {x : Str} {pos : Pos} {a : Addr} {d : D} {f : Ob → Sig} {Q : D → Sig → Prop} (hk : env.scope.kind = .function) (hl : env.kindOf x = some .cell) (hd : (x == ("__debug__" : Str)) = false)
    (hc : env.cells.lookup x = some a) (H : Hole a (.cell (some d)) σ f) (h : Q d σ) : WE c (.Name x pos) env σ Q := fun X s S => by
  obtain ⟨v, o, ho, hd', r⟩ := H.hold S
  cases r with
  | some r => exact wpAny_Name (wpAny_loadName_cell hk hl hc ⟨o, ho, hd'⟩ (post_here S r h)) hd

/-! storing a name -/
noncomputable abbrev WA (c : Cx) (e : Expr) (env : Env) (d : D) (σ : Sig) (Q : Unit → Sig → Prop) : Prop := W1 c eqR (assign e env) d σ Q
noncomputable abbrev WSt (c : Cx) (x : Str) (env : Env) (d : D) (σ : Sig) (Q : Unit → Sig → Prop) : Prop := W1 c eqR (storeName env x) d σ Q

theorem NsAre.set {s s' : Shared} {bad bad' : List Addr} {m : Str → Option Value} {ns : List Str} {vs vs' : List (Option D)} {x : Str} {v : Value} {d : D} (hs : LocSet x (some d) ns vs vs') (N : NsAre c.prog c.w s bad m ns vs) (g : Grow s bad s' bad')
    (r : c.DV s' bad' v d) : NsAre c.prog c.w s' bad' (fun y => if y = x then some v else m y) ns vs' := by
  obtain ⟨hn, hl, ha⟩ := N
  obtain ⟨i, h1, rfl, hi⟩ := hs.at
  refine ⟨hn, by rw [List.length_set, hl], fun j y d' e1 e2 => ?_⟩
  by_cases hj : i = j
  · subst hj
    rw [h1] at e1
    cases e1
    rw [List.getElem?_set_self hi] at e2
    cases e2
    dsimp only
    rw [if_pos rfl]
    exact .some r
  · rw [List.getElem?_set_ne hj] at e2
    have hne : y ≠ x := by
      rintro rfl
      obtain ⟨l1, q1⟩ := List.getElem?_eq_some_iff.mp h1
      obtain ⟨l2, q2⟩ := List.getElem?_eq_some_iff.mp e1
      exact hj ((List.getElem_inj hn).mp (q1.trans q2.symm))
    dsimp only
    rw [if_neg hne]
    exact (ha j y d' e1 e2).grow g

theorem St_local {x : Str} {d : D} {ns : List Str} {vs vs' : List (Option D)} {f : Ob → Sig} {Q : Unit → Sig → Prop} (hk : env.scope.kind = .function) (hl : env.kindOf x = some .local)
    {L : Addr} (H : Hole L (.ns ns vs) σ f) (hL : env.locals = L) (hx : LocSet x (some d) ns vs vs') (h : Q () (f (.ns ns vs'))) : WSt c x env d σ Q := fun X s v S r => by
  subst hL
  obtain ⟨m, hn, ha⟩ := H.hold S
  refine wpAny_storeName_local hl hn (fun h' hn' hs' => ?_) (by rw [hk]; rfl)
  have hk' : ∀ b o, b ≠ env.locals → s.heap.get? b = some o → h'.get? b = some o := fun b o hb e => (hs'.2 b hb).trans e
  have st : Step σ (f (.ns ns vs')) s { s with heap := h', toks := s.toks + 1 } := Step.set H rfl hk' (by first | exact Nat.le_refl _ | exact Nat.le_succ _)
  have g := st.grow X
  rw [H.adrs_eq] at g
  have hr := r.grow g
  exact ⟨(), _, h, rfl, S.set H hk' (Nat.le_succ _) ⟨_, hn', ha.set hx g hr⟩, st⟩
theorem St_cell {x : Str} {a : Addr} {d : D} {d₀ : Option D} {f : Ob → Sig} {Q : Unit → Sig → Prop} (hk : env.scope.kind = .function) (hl : env.kindOf x = some .cell) (hc : env.cells.lookup x = some a)
    (H : Hole a (.cell d₀) σ f) (h : Q () (f (.cell (some d)))) : WSt c x env d σ Q := fun X s v S r => by
  obtain ⟨v₀, o, ho, hd', r₀⟩ := H.hold S
  refine wpAny_storeName_cell hk hl hc ⟨o, ho, hd'⟩ fun h' hv' hs' => ?_
  have hk' : ∀ b o, b ≠ a → s.heap.get? b = some o → h'.get? b = some o := fun b o hb e => (hs'.2 b hb).trans e
  have st : Step σ (f (.cell (some d))) s { s with heap := h', toks := s.toks } := Step.set H rfl hk' (by first | exact Nat.le_refl _ | exact Nat.le_succ _)
  have g := st.grow X
  rw [H.adrs_eq] at g
  obtain ⟨o', ho', hd''⟩ := hv'
  exact ⟨(), _, h, rfl, S.set H hk' (Nat.le_refl _) ⟨_, o', ho', hd'', .some (r.grow g)⟩, st⟩
theorem A_Name {x : Str} {pos : Pos} {d : D} {Q : Unit → Sig → Prop} (h : WSt c x env d σ Q) : WA c (.Name x pos) env d σ Q := fun X s v S r => wpAny_assign_Name (h X s v S r)

/-! nodes -/
theorem E_BinOp {l r : Expr} {op : Operator} {pos : Pos} {Q : D → Sig → Prop} (h : WE c l env σ fun d₁ σ₁ => WE c r env σ₁ fun d₂ σ₂ => W2 c c.DV (binaryOp op) d₁ d₂ σ₂ Q) : WE c (.BinOp l op r pos) env σ Q := fun X s S =>
  wpAny_BinOp (h.then S fun v₁ s₁ d₁ τ₁ h₁ r₁ S₁ x₁ => h₁.then S₁ fun v₂ s₂ d₂ τ₂ h₂ r₂ S₂ x₂ => post_of (x₁.trans x₂) (h₂ X s₂ v₁ v₂ S₂ (r₁.grow (x₂.grow X)) r₂))
theorem E_Compare {l r : Expr} {op : CmpOp} {pos : Pos} {Q : D → Sig → Prop} (hm : behindInMarks op r = false) (h : WE c l env σ fun d₁ σ₁ => WE c r env σ₁ fun d₂ σ₂ => W2 c c.DV (compareOp op) d₁ d₂ σ₂ Q) : WE c (.Compare l [op] [r] pos) env σ Q := fun X s S =>
  wpAny_Compare1 (h.then S fun v₁ s₁ d₁ τ₁ h₁ r₁ S₁ x₁ => h₁.then S₁ fun v₂ s₂ d₂ τ₂ h₂ r₂ S₂ x₂ => post_of (x₁.trans x₂) (h₂ X s₂ v₁ v₂ S₂ (r₁.grow (x₂.grow X)) r₂)) hm
theorem T_Compare {l r : Expr} {op : CmpOp} {pos : Pos} {Q : Bool → Sig → Prop} (hm : behindInMarks op r = false) (h : WE c l env σ fun d₁ σ₁ => WE c r env σ₁ fun d₂ σ₂ => W2 c c.DV (compareOp op) d₁ d₂ σ₂ fun d σ₃ => W1 c eqR truthy d σ₃ Q) : WT c (.Compare l [op] [r] pos) env σ Q := fun X s S =>
  wpAny_isTrue_Compare1 (h.then S fun v₁ s₁ d₁ τ₁ h₁ r₁ S₁ x₁ => h₁.then S₁ fun v₂ s₂ d₂ τ₂ h₂ r₂ S₂ x₂ => Post.then (h₂ X s₂ v₁ v₂ S₂ (r₁.grow (x₂.grow X)) r₂) fun v₃ s₃ d₃ τ₃ h₃ r₃ S₃ x₃ => post_of (x₁.trans (x₂.trans x₃)) (h₃ X s₃ v₃ S₃ r₃)) hm
theorem E_UnaryOp {x : Expr} {op : UnaryOp} {pos : Pos} {Q : D → Sig → Prop} (h : WE c x env σ fun d₁ σ₁ => W1 c c.DV (unaryOp op) d₁ σ₁ Q) : WE c (.UnaryOp op x pos) env σ Q := fun X s S =>
  UnaryOp_ (h.then S fun v₁ s₁ d₁ τ₁ h₁ r₁ S₁ x₁ => post_of x₁ (h₁ X s₁ v₁ S₁ r₁))
theorem T_Not {x : Expr} {pos : Pos} {Q : Bool → Sig → Prop} (h : WT c x env σ fun b σ₁ => Q (!b) σ₁) : WT c (.UnaryOp .Not x pos) env σ Q := fun X s S =>
  isTrue_not (h.then S fun b s₁ b' τ₁ h₁ r₁ S₁ x₁ => by cases (show b = b' from r₁); exact ⟨!b, τ₁, h₁, rfl, S₁, x₁⟩)
theorem E_IfExp {t x y : Expr} {pos : Pos} {Q : D → Sig → Prop} (h : WT c t env σ fun b σ₁ => if b then WE c x env σ₁ Q else WE c y env σ₁ Q) : WE c (.IfExp t x y pos) env σ Q := fun X s S =>
  IfExp_ (h.then S fun b s₁ b' τ₁ h₁ r₁ S₁ x₁ => by
    cases (show b = b' from r₁)
    cases b with
    | true => exact post_of x₁ (h₁ X s₁ S₁)
    | false => exact post_of x₁ (h₁ X s₁ S₁))
theorem T_plain {e : Expr} {Q : Bool → Sig → Prop} (he : isTrue e env (eval e env) = (do let v ← eval e env; standAt e.pos; holding [v] (truthy v))) (h : WE c e env σ fun d σ₁ => W1 c eqR truthy d σ₁ Q) : WT c e env σ Q := fun X s S =>
  isTrue_plain (h.then S fun v₁ s₁ d₁ τ₁ h₁ r₁ S₁ x₁ => post_of x₁ (h₁ X s₁ v₁ S₁ r₁)) he
theorem T_and_nil {pos : Pos} {Q : Bool → Sig → Prop} (h : Q true σ) : WT c (.BoolOp .And [] pos) env σ Q := fun X s S => isTrue_and_nil (post_here S rfl h)
theorem T_and {x : Expr} {rest : List Expr} {pos : Pos} {Q : Bool → Sig → Prop} (h : WT c x env σ fun b σ₁ => if b then WT c (.BoolOp .And rest pos) env σ₁ Q else Q false σ₁) : WT c (.BoolOp .And (x :: rest) pos) env σ Q := fun X s S =>
  isTrue_and (h.then S fun b s₁ b' τ₁ h₁ r₁ S₁ x₁ => by
    cases (show b = b' from r₁)
    cases b with
    | true => exact post_of x₁ (h₁ X s₁ S₁)
    | false => exact ⟨false, τ₁, h₁, rfl, S₁, x₁⟩)
theorem E_and_one {x : Expr} {pos : Pos} {Q : D → Sig → Prop} (h : WE c x env σ Q) : WE c (.BoolOp .And [x] pos) env σ Q := fun X s S => BoolOp_one (h X s S)
theorem E_and {x y : Expr} {rest : List Expr} {pos : Pos} {Q : D → Sig → Prop} (h : WE c x env σ fun d σ₁ => W1 c eqR truthy d σ₁ fun b σ₂ => b = true ∧ WE c (.BoolOp .And (y :: rest) pos) env σ₂ Q) : WE c (.BoolOp .And (x :: y :: rest) pos) env σ Q := fun X s S =>
  BoolOp_and (h.then S fun v₁ s₁ d₁ τ₁ h₁ r₁ S₁ x₁ => Post.then (h₁ X s₁ v₁ S₁ r₁) fun b s₂ b' τ₂ h₂ r₂ S₂ x₂ => by
    cases (show b = b' from r₂)
    obtain ⟨rfl, h₂⟩ := h₂
    exact post_of (x₁.trans x₂) (h₂ X s₂ S₂))
theorem truthy_bool {b : Bool} {Q : Bool → Sig → Prop} (h : Q b σ) : W1 c eqR truthy (.bool b) σ Q := fun X s v S r => by
  (first | obtain ⟨_, rfl⟩ := DV.iX r | obtain ⟨_, rfl⟩ := DV.sX r | obtain rfl := DV.nX r | obtain rfl := DV.bX r | obtain rfl := DV.vX r | obtain rfl := DVs.zX r | cases r); exact wpAny_truthy_bool (post_here S rfl h)

/-! a row of values -/
theorem I_nil {pos : Pos} {Q : List D → Sig → Prop} (h : Q [] σ) : WI c [] env pos σ Q := fun X s S => wpAny_items_nil (post_here S .nil h)
theorem I_cons {e : Expr} {es : List Expr} {pos : Pos} {Q : List D → Sig → Prop} (he : starEach (e :: es) env = (false, eval e env) :: starEach es env) (h : WE c e env σ fun d σ₁ => WI c es env pos σ₁ fun ds σ₂ => Q (d :: ds) σ₂) : WI c (e :: es) env pos σ Q := fun X s S =>
  wpAny_items_cons (h.then S fun v₁ s₁ d₁ τ₁ h₁ r₁ S₁ x₁ => Post.then (h₁ X s₁ S₁) fun vs s₂ ds τ₂ h₂ r₂ S₂ x₂ => ⟨d₁ :: ds, τ₂, h₂, .cons (r₁.grow (x₂.grow X)) r₂, S₂, x₁.trans x₂⟩) he

theorem DVs.length {s : Shared} {bad : List Addr} : ∀ {vs : List Value} {ds : List D}, DVs c.prog c.w s bad vs ds → vs.length = ds.length
  | _, _, .nil => rfl
  | _, _, .cons _ r => congrArg (· + 1) (DVs.length r)

/-- a new object: the heap with it -/
noncomputable abbrev pushed (s : Shared) (o : Obj) : Shared := { s with heap := s.heap.push o }
theorem grow_push {bad : List Addr} {o : Obj} : Grow s bad (pushed s o) bad := ⟨fun b o' _ e => Heap.get?_push_of_some _ e, fun _ _ _ hb => hb, Nat.le_refl _⟩
theorem fresh_bad (S : c.St X σ s) : s.heap.objs.size ∉ X ++ adrs σ := fun hm => by
  rcases List.mem_append.mp hm with q | q
  · obtain ⟨o, e⟩ := S.xold _ q; exact Nat.lt_irrefl _ (Heap.lt_size e)
  · exact Nat.lt_irrefl _ (S.lt q)
theorem get_size {h : Heap} : h.get? h.objs.size = none := by
  cases e : h.get? h.objs.size with
  | none => rfl
  | some o => exact absurd (Heap.lt_size e) (Nat.lt_irrefl _)
theorem St.pushed {o : Obj} (S : c.St X σ s) : c.St X σ (pushed s o) := S.ext (fun b o e => Heap.get?_push_of_some _ e) (Nat.le_refl _)
theorem Step.pushed {o : Obj} : Step σ σ s (pushed s o) := ⟨rfl, fun b o _ e => Heap.get?_push_of_some _ e, fun a ha => .inl ha, Nat.le_refl _⟩
theorem Step.put {o : Obj} {ob : Ob} : Step σ ((s.heap.objs.size, ob) :: σ) s (Mine.pushed s o) :=
  ⟨rfl, fun b o _ e => Heap.get?_push_of_some _ e, fun a ha => by rcases List.mem_cons.mp ha with rfl | ha; exact .inr get_size; exact .inl ha, Nat.le_refl _⟩
theorem St.put {ob : Ob} {o : Obj} (S : c.St X σ s) (hx : Holds c.prog c.w (Mine.pushed s o) (X ++ adrs ((s.heap.objs.size, ob) :: σ)) s.heap.objs.size ob) : c.St X ((s.heap.objs.size, ob) :: σ) (Mine.pushed s o) :=
  S.push (fun b o e => Heap.get?_push_of_some _ e) (Nat.le_refl _) get_size hx

theorem new_tup {vs : List Value} {ds : List D} (S : c.St X σ s) (r : c.DVs s (X ++ adrs σ) vs ds) : c.DV (pushed s { cls := .type "tuple", data := .seq vs.toArray }) (X ++ adrs σ) (.ref s.heap.objs.size) (.tup ds) :=
  .tup (n := 0) (Heap.get?_push_size _ rfl) (fresh_bad S) (r.grow grow_push)
theorem new_lst {vs : List Value} {ds : List D} (S : c.St X σ s) (r : c.DVs s (X ++ adrs σ) vs ds) : c.DV (pushed s { cls := .type "list", data := .seq vs.toArray }) (X ++ adrs σ) (.ref s.heap.objs.size) (.lst ds) :=
  .lst (n := 0) (Heap.get?_push_size _ rfl) (fresh_bad S) (r.grow grow_push)
theorem new_list {vs : List Value} {ds : List D} (S : c.St X σ s) (r : c.DVs s (X ++ adrs σ) vs ds) : c.St X ((s.heap.objs.size, .list ds) :: σ) (pushed s { cls := .type "list", data := .seq vs.toArray }) :=
  S.put ⟨vs, 0, Heap.get?_push_size _ rfl, r.grow ((Step.put (ob := .list ds)).grow X)⟩

theorem E_Tuple {es : List Expr} {k : Nat} {pos : Pos} {Q : D → Sig → Prop} (h : WI c es env pos σ fun ds σ₁ => ds.length ≤ sizeLine ∧ Q (.tup ds) σ₁) : WE c (.Tuple es k pos) env σ Q := fun X s S =>
  wpAny_Tuple (h.then S fun vs s₁ ds τ₁ h₁ r₁ S₁ x₁ => ⟨by rw [r₁.length]; exact h₁.1, .tup ds, τ₁, h₁.2, new_tup S₁ r₁, S₁.pushed, x₁.trans .pushed⟩)
/-- a list display that nothing will turn -/
theorem E_List {es : List Expr} {pos : Pos} {Q : D → Sig → Prop} (h : WI c es env pos σ fun ds σ₁ => ds.length ≤ sizeLine ∧ Q (.lst ds) σ₁) : WE c (.List es pos) env σ Q := fun X s S =>
  wpAny_List (h.then S fun vs s₁ ds τ₁ h₁ r₁ S₁ x₁ => ⟨by rw [r₁.length]; exact h₁.1, .lst ds, τ₁, h₁.2, new_lst S₁ r₁, S₁.pushed, x₁.trans .pushed⟩)
/-- a list display that will be turned -/
theorem E_List_new {es : List Expr} {pos : Pos} {Q : D → Sig → Prop} (h : WI c es env pos σ fun ds σ₁ => ds.length ≤ sizeLine ∧ ∀ a, Q (.val (.ref a)) ((a, .list ds) :: σ₁)) : WE c (.List es pos) env σ Q := fun X s S =>
  wpAny_List (h.then S fun vs s₁ ds τ₁ h₁ r₁ S₁ x₁ => ⟨by rw [r₁.length]; exact h₁.1, .val _, _, h₁.2 s₁.heap.objs.size, .val _, new_list S₁ r₁, x₁.trans .put⟩)
end
end Mine

namespace Mine
open PySem PySem.W PySem.Calls PyProof.Rows

section
variable {c : Cx} {σ τ : Sig} {X : List Addr} {s s₁ : Shared} {env : Env} {mg mb : Str → Option Value} {Q : D → Sig → Prop}

/-! ints -/
theorem add_i {a b : Int} (h : Q (.int (a + b)) σ) : W2 c c.DV (binaryOp .Add) (.int a) (.int b) σ Q := fun X s _ _ S r₁ r₂ => by
  (first | obtain ⟨_, rfl⟩ := DV.iX r₁ | obtain ⟨_, rfl⟩ := DV.sX r₁ | obtain rfl := DV.nX r₁ | obtain rfl := DV.bX r₁ | obtain rfl := DV.vX r₁ | obtain rfl := DVs.zX r₁ | cases r₁); (first | obtain ⟨_, rfl⟩ := DV.iX r₂ | obtain ⟨_, rfl⟩ := DV.sX r₂ | obtain rfl := DV.nX r₂ | obtain rfl := DV.bX r₂ | obtain rfl := DV.vX r₂ | obtain rfl := DVs.zX r₂ | cases r₂); (with_reducible refine add_int ?_); exact post_tk S h (Nat.le_succ _) (.int ..)
theorem sub_i {a b : Int} (h : Q (.int (a - b)) σ) : W2 c c.DV (binaryOp .Sub) (.int a) (.int b) σ Q := fun X s _ _ S r₁ r₂ => by
  (first | obtain ⟨_, rfl⟩ := DV.iX r₁ | obtain ⟨_, rfl⟩ := DV.sX r₁ | obtain rfl := DV.nX r₁ | obtain rfl := DV.bX r₁ | obtain rfl := DV.vX r₁ | obtain rfl := DVs.zX r₁ | cases r₁); (first | obtain ⟨_, rfl⟩ := DV.iX r₂ | obtain ⟨_, rfl⟩ := DV.sX r₂ | obtain rfl := DV.nX r₂ | obtain rfl := DV.bX r₂ | obtain rfl := DV.vX r₂ | obtain rfl := DVs.zX r₂ | cases r₂); (with_reducible refine PyProof.Rows.sub_int ?_); exact post_tk S h (Nat.le_succ _) (.int ..)
theorem mul_i {a b : Int} (hm : IntMulOk a b) (h : Q (.int (a * b)) σ) : W2 c c.DV (binaryOp .Mult) (.int a) (.int b) σ Q := fun X s _ _ S r₁ r₂ => by
  (first | obtain ⟨_, rfl⟩ := DV.iX r₁ | obtain ⟨_, rfl⟩ := DV.sX r₁ | obtain rfl := DV.nX r₁ | obtain rfl := DV.bX r₁ | obtain rfl := DV.vX r₁ | obtain rfl := DVs.zX r₁ | cases r₁); (first | obtain ⟨_, rfl⟩ := DV.iX r₂ | obtain ⟨_, rfl⟩ := DV.sX r₂ | obtain rfl := DV.nX r₂ | obtain rfl := DV.bX r₂ | obtain rfl := DV.vX r₂ | obtain rfl := DVs.zX r₂ | cases r₂); (with_reducible refine PyProof.Rows.mul_int ?_ hm); exact post_tk S h (Nat.le_succ _) (.int ..)
theorem fdiv_i {a b : Int} (hb : b ≠ 0) (hp : Builtin.divisionGoesByPylong a b = false) (h : Q (.int (a.fdiv b)) σ) : W2 c c.DV (binaryOp .FloorDiv) (.int a) (.int b) σ Q := fun X s _ _ S r₁ r₂ => by
  (first | obtain ⟨_, rfl⟩ := DV.iX r₁ | obtain ⟨_, rfl⟩ := DV.sX r₁ | obtain rfl := DV.nX r₁ | obtain rfl := DV.bX r₁ | obtain rfl := DV.vX r₁ | obtain rfl := DVs.zX r₁ | cases r₁); (first | obtain ⟨_, rfl⟩ := DV.iX r₂ | obtain ⟨_, rfl⟩ := DV.sX r₂ | obtain rfl := DV.nX r₂ | obtain rfl := DV.bX r₂ | obtain rfl := DV.vX r₂ | obtain rfl := DVs.zX r₂ | cases r₂); (with_reducible refine floordiv_int hb ?_ (.inl hp)); exact post_tk S h (Nat.le_succ _) (.int ..)
theorem mod_i {a b : Int} (hb : b ≠ 0) (h : Q (.int (a.fmod b)) σ) : W2 c c.DV (binaryOp .Mod) (.int a) (.int b) σ Q := fun X s _ _ S r₁ r₂ => by
  (first | obtain ⟨_, rfl⟩ := DV.iX r₁ | obtain ⟨_, rfl⟩ := DV.sX r₁ | obtain rfl := DV.nX r₁ | obtain rfl := DV.bX r₁ | obtain rfl := DV.vX r₁ | obtain rfl := DVs.zX r₁ | cases r₁); (first | obtain ⟨_, rfl⟩ := DV.iX r₂ | obtain ⟨_, rfl⟩ := DV.sX r₂ | obtain rfl := DV.nX r₂ | obtain rfl := DV.bX r₂ | obtain rfl := DV.vX r₂ | obtain rfl := DVs.zX r₂ | cases r₂); (with_reducible refine mod_int' hb ?_); exact post_tk S h (Nat.le_succ _) (.int ..)
theorem shr_i {a b : Int} (hb : 0 ≤ b) (h : Q (.int (a.fdiv (2 ^ b.toNat))) σ) : W2 c c.DV (binaryOp .RShift) (.int a) (.int b) σ Q := fun X s _ _ S r₁ r₂ => by
  (first | obtain ⟨_, rfl⟩ := DV.iX r₁ | obtain ⟨_, rfl⟩ := DV.sX r₁ | obtain rfl := DV.nX r₁ | obtain rfl := DV.bX r₁ | obtain rfl := DV.vX r₁ | obtain rfl := DVs.zX r₁ | cases r₁); (first | obtain ⟨_, rfl⟩ := DV.iX r₂ | obtain ⟨_, rfl⟩ := DV.sX r₂ | obtain rfl := DV.nX r₂ | obtain rfl := DV.bX r₂ | obtain rfl := DV.vX r₂ | obtain rfl := DVs.zX r₂ | cases r₂); (with_reducible refine rshift_int hb ?_); exact post_tk S h (Nat.le_succ _) (.int ..)
theorem neg_i {a : Int} (h : Q (.int (-a)) σ) : W1 c c.DV (unaryOp .USub) (.int a) σ Q := fun X s _ S r₁ => by
  (first | obtain ⟨_, rfl⟩ := DV.iX r₁ | obtain ⟨_, rfl⟩ := DV.sX r₁ | obtain rfl := DV.nX r₁ | obtain rfl := DV.bX r₁ | obtain rfl := DV.vX r₁ | obtain rfl := DVs.zX r₁ | cases r₁); (with_reducible refine PyProof.Rows.neg_int ?_); exact post_tk S h (Nat.le_succ _) (.int ..)
theorem lt_i {a b : Int} (h : Q (.bool (decide (a < b))) σ) : W2 c c.DV (compareOp .Lt) (.int a) (.int b) σ Q := fun X s _ _ S r₁ r₂ => by
  (first | obtain ⟨_, rfl⟩ := DV.iX r₁ | obtain ⟨_, rfl⟩ := DV.sX r₁ | obtain rfl := DV.nX r₁ | obtain rfl := DV.bX r₁ | obtain rfl := DV.vX r₁ | obtain rfl := DVs.zX r₁ | cases r₁); (first | obtain ⟨_, rfl⟩ := DV.iX r₂ | obtain ⟨_, rfl⟩ := DV.sX r₂ | obtain rfl := DV.nX r₂ | obtain rfl := DV.bX r₂ | obtain rfl := DV.vX r₂ | obtain rfl := DVs.zX r₂ | cases r₂); (with_reducible refine PyProof.Rows.lt_int ?_); exact post_here S (.bool _) h
theorem gt_i {a b : Int} (h : Q (.bool (decide (b < a))) σ) : W2 c c.DV (compareOp .Gt) (.int a) (.int b) σ Q := fun X s _ _ S r₁ r₂ => by
  (first | obtain ⟨_, rfl⟩ := DV.iX r₁ | obtain ⟨_, rfl⟩ := DV.sX r₁ | obtain rfl := DV.nX r₁ | obtain rfl := DV.bX r₁ | obtain rfl := DV.vX r₁ | obtain rfl := DVs.zX r₁ | cases r₁); (first | obtain ⟨_, rfl⟩ := DV.iX r₂ | obtain ⟨_, rfl⟩ := DV.sX r₂ | obtain rfl := DV.nX r₂ | obtain rfl := DV.bX r₂ | obtain rfl := DV.vX r₂ | obtain rfl := DVs.zX r₂ | cases r₂); (with_reducible refine PyProof.Rows.gt_int ?_); exact post_here S (.bool _) h
theorem eq_i {a b : Int} (h : Q (.bool (a == b)) σ) : W2 c c.DV (compareOp .Eq) (.int a) (.int b) σ Q := fun X s _ _ S r₁ r₂ => by
  (first | obtain ⟨_, rfl⟩ := DV.iX r₁ | obtain ⟨_, rfl⟩ := DV.sX r₁ | obtain rfl := DV.nX r₁ | obtain rfl := DV.bX r₁ | obtain rfl := DV.vX r₁ | obtain rfl := DVs.zX r₁ | cases r₁); (first | obtain ⟨_, rfl⟩ := DV.iX r₂ | obtain ⟨_, rfl⟩ := DV.sX r₂ | obtain rfl := DV.nX r₂ | obtain rfl := DV.bX r₂ | obtain rfl := DV.vX r₂ | obtain rfl := DVs.zX r₂ | cases r₂); (with_reducible refine eq_int ?_); exact post_here S (.bool _) h
theorem iadd_i {a b : Int} (h : Q (.int (a + b)) σ) : W2 c c.DV (inplaceOp .Add) (.int a) (.int b) σ Q := fun X s _ _ S r₁ r₂ => by
  (first | obtain ⟨_, rfl⟩ := DV.iX r₁ | obtain ⟨_, rfl⟩ := DV.sX r₁ | obtain rfl := DV.nX r₁ | obtain rfl := DV.bX r₁ | obtain rfl := DV.vX r₁ | obtain rfl := DVs.zX r₁ | cases r₁); (first | obtain ⟨_, rfl⟩ := DV.iX r₂ | obtain ⟨_, rfl⟩ := DV.sX r₂ | obtain rfl := DV.nX r₂ | obtain rfl := DV.bX r₂ | obtain rfl := DV.vX r₂ | obtain rfl := DVs.zX r₂ | cases r₂); (with_reducible refine iadd_int ?_); exact post_tk S h (Nat.le_succ _) (.int ..)

/-! strs: a str with a token of its own is a str -/
theorem DV.weak {bad : List Addr} {v : Value} {x : Str} (r : c.DV s bad v (.sg x)) : c.DV s bad v (.str x) := by (first | obtain ⟨_, rfl⟩ := DV.iX r | obtain ⟨_, rfl⟩ := DV.sX r | obtain rfl := DV.nX r | obtain rfl := DV.bX r | obtain rfl := DV.vX r | obtain rfl := DVs.zX r | cases r); exact .str ..
theorem E_weak {x : Str} {e : Expr} (h : WE c e env σ fun d σ₁ => d = .sg x ∧ Q (.str x) σ₁) : WE c e env σ Q := fun X s S =>
  h.then S fun v s₁ d τ ⟨hd, hq⟩ r S₁ x₁ => by subst hd; exact ⟨.str x, τ, hq, r.weak, S₁, x₁⟩
theorem add_s {x y : Str} (hz : x.length + y.length ≤ sizeLine) (h : Q (.str (x ++ y)) σ) : W2 c c.DV (binaryOp .Add) (.str x) (.str y) σ Q := fun X s _ _ S r₁ r₂ => by
  (first | obtain ⟨_, rfl⟩ := DV.iX r₁ | obtain ⟨_, rfl⟩ := DV.sX r₁ | obtain rfl := DV.nX r₁ | obtain rfl := DV.bX r₁ | obtain rfl := DV.vX r₁ | obtain rfl := DVs.zX r₁ | cases r₁); (first | obtain ⟨_, rfl⟩ := DV.iX r₂ | obtain ⟨_, rfl⟩ := DV.sX r₂ | obtain rfl := DV.nX r₂ | obtain rfl := DV.bX r₂ | obtain rfl := DV.vX r₂ | obtain rfl := DVs.zX r₂ | cases r₂); refine with_toks ?_; (with_reducible refine SB.add ?_ hz); exact fun t' k hk => post_tk S h hk (.str ..)
theorem mul_s {x : Str} {n : Int} (hz : MulOk x n) (h : Q (.str (Txt.mul x n)) σ) : W2 c c.DV (binaryOp .Mult) (.str x) (.int n) σ Q := fun X s _ _ S r₁ r₂ => by
  (first | obtain ⟨_, rfl⟩ := DV.iX r₁ | obtain ⟨_, rfl⟩ := DV.sX r₁ | obtain rfl := DV.nX r₁ | obtain rfl := DV.bX r₁ | obtain rfl := DV.vX r₁ | obtain rfl := DVs.zX r₁ | cases r₁); (first | obtain ⟨_, rfl⟩ := DV.iX r₂ | obtain ⟨_, rfl⟩ := DV.sX r₂ | obtain rfl := DV.nX r₂ | obtain rfl := DV.bX r₂ | obtain rfl := DV.vX r₂ | obtain rfl := DVs.zX r₂ | cases r₂); refine with_toks ?_; (with_reducible refine SB.mul hz ?_); exact fun t' k hk => post_tk S h hk (.str ..)
theorem lt_s {x y : Str} (h : Q (.bool (decide (x.cps.toList < y.cps.toList))) σ) : W2 c c.DV (compareOp .Lt) (.str x) (.str y) σ Q := fun X s _ _ S r₁ r₂ => by
  (first | obtain ⟨_, rfl⟩ := DV.iX r₁ | obtain ⟨_, rfl⟩ := DV.sX r₁ | obtain rfl := DV.nX r₁ | obtain rfl := DV.bX r₁ | obtain rfl := DV.vX r₁ | obtain rfl := DVs.zX r₁ | cases r₁); (first | obtain ⟨_, rfl⟩ := DV.iX r₂ | obtain ⟨_, rfl⟩ := DV.sX r₂ | obtain rfl := DV.nX r₂ | obtain rfl := DV.bX r₂ | obtain rfl := DV.vX r₂ | obtain rfl := DVs.zX r₂ | cases r₂); (with_reducible refine PyProof.Rows.lt_str ?_); exact post_here S (.bool _) h
theorem in_s {x y : Str} (h : Q (.bool (Txt.contains x y)) σ) : W2 c c.DV (compareOp .In) (.str y) (.str x) σ Q := fun X s _ _ S r₁ r₂ => by
  (first | obtain ⟨_, rfl⟩ := DV.iX r₁ | obtain ⟨_, rfl⟩ := DV.sX r₁ | obtain rfl := DV.nX r₁ | obtain rfl := DV.bX r₁ | obtain rfl := DV.vX r₁ | obtain rfl := DVs.zX r₁ | cases r₁); (first | obtain ⟨_, rfl⟩ := DV.iX r₂ | obtain ⟨_, rfl⟩ := DV.sX r₂ | obtain rfl := DV.nX r₂ | obtain rfl := DV.bX r₂ | obtain rfl := DV.vX r₂ | obtain rfl := DVs.zX r₂ | cases r₂); (with_reducible refine SB.contains ?_); exact post_here S (.bool _) h
theorem notin_s {x y : Str} (h : Q (.bool (!Txt.contains x y)) σ) : W2 c c.DV (compareOp .NotIn) (.str y) (.str x) σ Q := fun X s _ _ S r₁ r₂ => by
  (first | obtain ⟨_, rfl⟩ := DV.iX r₁ | obtain ⟨_, rfl⟩ := DV.sX r₁ | obtain rfl := DV.nX r₁ | obtain rfl := DV.bX r₁ | obtain rfl := DV.vX r₁ | obtain rfl := DVs.zX r₁ | cases r₁); (first | obtain ⟨_, rfl⟩ := DV.iX r₂ | obtain ⟨_, rfl⟩ := DV.sX r₂ | obtain rfl := DV.nX r₂ | obtain rfl := DV.bX r₂ | obtain rfl := DV.vX r₂ | obtain rfl := DVs.zX r₂ | cases r₂); (with_reducible refine SB.notContains ?_); exact post_here S (.bool _) h
/-- the first operand's data told more weakly -/
theorem W2.weak1 {α β : Type} {rep : Shared → List Addr → α → β → Prop} {t : Value → Value → Sem α} {x : Str} {d : D} {Q : β → Sig → Prop} (h : W2 c rep t (.str x) d σ Q) : W2 c rep t (.sg x) d σ Q := fun X s _ _ S r₁ r₂ => h X s _ _ S r₁.weak r₂
theorem W2.weak2 {α β : Type} {rep : Shared → List Addr → α → β → Prop} {t : Value → Value → Sem α} {x : Str} {d : D} {Q : β → Sig → Prop} (h : W2 c rep t d (.str x) σ Q) : W2 c rep t d (.sg x) σ Q := fun X s _ _ S r₁ r₂ => h X s _ _ S r₁ r₂.weak
theorem W1.weak {α β : Type} {rep : Shared → List Addr → α → β → Prop} {t : Value → Sem α} {x : Str} {Q : β → Sig → Prop} (h : W1 c rep t (.str x) σ Q) : W1 c rep t (.sg x) σ Q := fun X s _ S r₁ => h X s _ S r₁.weak

/-! none and identity -/
theorem isNot_none {v : Value} (hv : (v == Value.none) = false) (h : Q (.bool true) σ) : W2 c c.DV (compareOp .IsNot) (.val v) .none σ Q := fun X s _ _ S r₁ r₂ => by
  (first | obtain ⟨_, rfl⟩ := DV.iX r₁ | obtain ⟨_, rfl⟩ := DV.sX r₁ | obtain rfl := DV.nX r₁ | obtain rfl := DV.bX r₁ | obtain rfl := DV.vX r₁ | obtain rfl := DVs.zX r₁ | cases r₁); (first | obtain ⟨_, rfl⟩ := DV.iX r₂ | obtain ⟨_, rfl⟩ := DV.sX r₂ | obtain rfl := DV.nX r₂ | obtain rfl := DV.bX r₂ | obtain rfl := DV.vX r₂ | obtain rfl := DVs.zX r₂ | cases r₂); (with_reducible refine PySem.isNot_none ?_); exact post_here S (by rw [hv]; exact .bool _) h
theorem isNot_none_str {x : Str} (h : Q (.bool true) σ) : W2 c c.DV (compareOp .IsNot) (.str x) .none σ Q := fun X s _ _ S r₁ r₂ => by
  (first | obtain ⟨_, rfl⟩ := DV.iX r₁ | obtain ⟨_, rfl⟩ := DV.sX r₁ | obtain rfl := DV.nX r₁ | obtain rfl := DV.bX r₁ | obtain rfl := DV.vX r₁ | obtain rfl := DVs.zX r₁ | cases r₁); (first | obtain ⟨_, rfl⟩ := DV.iX r₂ | obtain ⟨_, rfl⟩ := DV.sX r₂ | obtain rfl := DV.nX r₂ | obtain rfl := DV.bX r₂ | obtain rfl := DV.vX r₂ | obtain rfl := DVs.zX r₂ | cases r₂); (with_reducible refine PySem.isNot_none ?_); exact post_here S (.bool _) h
theorem isNot_none_lst {ds : List D} (h : Q (.bool true) σ) : W2 c c.DV (compareOp .IsNot) (.lst ds) .none σ Q := fun X s _ _ S r₁ r₂ => by
  (first | obtain ⟨_, rfl⟩ := DV.iX r₁ | obtain ⟨_, rfl⟩ := DV.sX r₁ | obtain rfl := DV.nX r₁ | obtain rfl := DV.bX r₁ | obtain rfl := DV.vX r₁ | obtain rfl := DVs.zX r₁ | cases r₁); (first | obtain ⟨_, rfl⟩ := DV.iX r₂ | obtain ⟨_, rfl⟩ := DV.sX r₂ | obtain rfl := DV.nX r₂ | obtain rfl := DV.bX r₂ | obtain rfl := DV.vX r₂ | obtain rfl := DVs.zX r₂ | cases r₂); (with_reducible refine PySem.isNot_none ?_); exact post_here S (.bool _) h

/-! rows -/
theorem DVs.get {bad : List Addr} {vs : List Value} {ds : List D} {j : Nat} {d : D} (r : c.DVs s bad vs ds) (h : ds[j]? = some d) : ∃ v, vs[j]? = some v ∧ c.DV s bad v d := by
  induction vs generalizing ds j with
  | nil => (first | obtain ⟨_, rfl⟩ := DV.iX r | obtain ⟨_, rfl⟩ := DV.sX r | obtain rfl := DV.nX r | obtain rfl := DV.bX r | obtain rfl := DV.vX r | obtain rfl := DVs.zX r | cases r); cases h
  | cons v vs ih =>
    cases r with
    | cons x q =>
      cases j with
      | zero => cases h; exact ⟨_, rfl, x⟩
      | succ j => exact ih q h
theorem DVs.append {bad : List Addr} : ∀ {vs ws : List Value} {ds es : List D}, c.DVs s bad vs ds → c.DVs s bad ws es → c.DVs s bad (vs ++ ws) (ds ++ es)
  | _, _, _, _, .nil, k => k
  | _, _, _, _, .cons r q, k => .cons r (DVs.append q k)
theorem DVs.set {bad : List Addr} {v : Value} {d : D} (r : c.DV s bad v d) : ∀ {vs : List Value} {ds : List D} {j : Nat}, c.DVs s bad vs ds → c.DVs s bad (vs.set j v) (ds.set j d)
  | _, _, _, .nil => .nil
  | _, _, 0, .cons _ q => .cons r q
  | _, _, j + 1, .cons x q => .cons x (DVs.set r q)
theorem DVs.take {bad : List Addr} : ∀ {n : Nat} {vs : List Value} {ds : List D}, c.DVs s bad vs ds → c.DVs s bad (vs.take n) (ds.take n)
  | 0, _, _, _ => by rw [List.take_zero, List.take_zero]; exact .nil
  | n + 1, _, _, .nil => .nil
  | n + 1, _, _, .cons r q => .cons r (DVs.take q)
theorem DVs.drop {bad : List Addr} {n : Nat} {vs : List Value} {ds : List D} (r : c.DVs s bad vs ds) : c.DVs s bad (vs.drop n) (ds.drop n) := by
  induction n generalizing vs ds with
  | zero => exact r
  | succ n ih =>
    cases r with
    | nil => exact .nil
    | cons _ q => exact ih q
theorem DVs.dropLast {bad : List Addr} {vs : List Value} {ds : List D} (r : c.DVs s bad vs ds) : c.DVs s bad vs.dropLast ds.dropLast := by
  rw [List.dropLast_eq_take, List.dropLast_eq_take, r.length]
  exact r.take

/-- lists and what stands for them -/
inductive Seqs (σ : Sig) : D → List D → Prop
  | lst {ds : List D} : Seqs σ (.lst ds) ds
  | ref {a : Addr} {ds : List D} {f : Ob → Sig} : Hole a (.list ds) σ f → Seqs σ (.val (.ref a)) ds
theorem Seqs.at (S : c.St X σ s) {d : D} {ds : List D} (h : Seqs σ d ds) {v : Value} (r : c.DV s (X ++ adrs σ) v d) : ∃ a vs n, v = .ref a ∧ s.heap.get? a = some (lstObj vs n) ∧ c.DVs s (X ++ adrs σ) vs ds := by
  cases h with
  | lst => cases r with | lst e _ q => exact ⟨_, _, _, rfl, e, q⟩
  | ref H => (first | obtain ⟨_, rfl⟩ := DV.iX r | obtain ⟨_, rfl⟩ := DV.sX r | obtain rfl := DV.nX r | obtain rfl := DV.bX r | obtain rfl := DV.vX r | obtain rfl := DVs.zX r | cases r); obtain ⟨vs, n, e, q⟩ := H.hold S; exact ⟨_, vs, n, rfl, e, q⟩
theorem isList_lst {h : Heap} {a : Addr} {vs : List Value} {n : Nat} (e : h.get? a = some (lstObj vs n)) : h.IsList a vs.toArray := ⟨_, e, rfl, n, rfl⟩

theorem add_l {d₁ d₂ : D} {ds es : List D} (h₁ : Seqs σ d₁ ds) (h₂ : Seqs σ d₂ es) (hz : ds.length + es.length ≤ sizeLine) (h : Q (.lst (ds ++ es)) σ) : W2 c c.DV (binaryOp .Add) d₁ d₂ σ Q := fun X s _ _ S r₁ r₂ => by
  obtain ⟨a, vs, n, rfl, ea, ra⟩ := h₁.at S r₁
  obtain ⟨b, ws, m, rfl, eb, rb⟩ := h₂.at S r₂
  have e : vs.toArray ++ ws.toArray = (vs ++ ws).toArray := by simp
  refine P.add_list ea eb ?_ (by simpa [ra.length, rb.length] using hz)
  rw [e]
  exact ⟨.lst (ds ++ es), σ, h, new_lst S (ra.append rb), S.pushed, .pushed⟩

/-! places -/
noncomputable abbrev plainSub (slice : Expr) : Prop := ∀ o i, subscripted slice false o i = operate [o, i] (getItem o i)
theorem E_Sub {value slice : Expr} {pos : Pos} (h : WE c value env σ fun d₁ σ₁ => WE c slice env σ₁ fun d₂ σ₂ => W2 c c.DV (subscriptTail value slice) d₁ d₂ σ₂ Q) : WE c (.Subscript value slice pos) env σ Q := fun X s S =>
  Subscript_ (h.then S fun v₁ s₁ d₁ τ₁ h₁ r₁ S₁ x₁ => h₁.then S₁ fun v₂ s₂ d₂ τ₂ h₂ r₂ S₂ x₂ => post_of (x₁.trans x₂) (h₂ X s₂ v₁ v₂ S₂ (r₁.grow (x₂.grow X)) r₂))
theorem sub_l {value slice : Expr} {d₁ : D} {ds : List D} {k : Int} {d : D} (hs : plainSub slice) (h₁ : Seqs σ d₁ ds) (h0 : 0 ≤ k) (hk : k < 2 ^ 63) (hx : ds[k.toNat]? = some d) (h : Q d σ) : W2 c c.DV (subscriptTail value slice) d₁ (.int k) σ Q := fun X s _ _ S r₁ r₂ => by
  obtain ⟨a, vs, n, rfl, ea, ra⟩ := h₁.at S r₁
  (first | obtain ⟨_, rfl⟩ := DV.iX r₂ | obtain ⟨_, rfl⟩ := DV.sX r₂ | obtain rfl := DV.nX r₂ | obtain rfl := DV.bX r₂ | obtain rfl := DV.vX r₂ | obtain rfl := DVs.zX r₂ | cases r₂)
  obtain ⟨v, hv, rv⟩ := ra.get hx
  exact tail_any (isList_lst ea).typeIs slot_list_getitem.lookup (wpAny_getItem_list (isList_lst ea) h0 hk (by simpa using hv) (post_here S rv h)) (hs _ _)
theorem seqIndex_nat {k n : Nat} (h : k < n) : seqIndex? (k : Int) n = some k := by
  have h1 : ¬ ((k : Int) < 0) := by omega
  have h2 : (decide (0 ≤ (k : Int)) && decide ((k : Int) < (n : Int))) = true := by simp; omega
  unfold seqIndex?
  simp only [h1, if_false, h2, if_true, Int.toNat_natCast]
theorem sub_t {value slice : Expr} {ds : List D} {k : Nat} {d : D} (hs : plainSub slice) (hk : (k : Int) < 2 ^ 63) (hx : ds[k]? = some d) (h : Q d σ) : W2 c c.DV (subscriptTail value slice) (.tup ds) (.int k) σ Q := fun X s _ _ S r₁ r₂ => by
  (first | obtain ⟨_, rfl⟩ := DV.iX r₂ | obtain ⟨_, rfl⟩ := DV.sX r₂ | obtain rfl := DV.nX r₂ | obtain rfl := DV.bX r₂ | obtain rfl := DV.vX r₂ | obtain rfl := DVs.zX r₂ | cases r₂)
  obtain ⟨a, vs, n, rfl, ea, _, ra⟩ := DV.tX r₁
  obtain ⟨v, hv, rv⟩ := ra.get hx
  have hl : k < vs.toArray.size := by rw [List.size_toArray]; exact (List.getElem?_eq_some_iff.mp hv).1
  have ht : IsTup s.heap a vs.toArray := ⟨_, ea, rfl, n, rfl⟩
  exact tail_any ht.typeIs slot_tuple_getitem.lookup (getItem_tuple (j := k) ht (by omega) hk (seqIndex_nat hl) (by simpa using hv) (post_here S rv h)) (hs _ _)
theorem sub_s {value slice : Expr} {x : Str} {k : Int} (hs : plainSub slice) (hr : fitsSsize k = true) (hin : (Txt.charAt x k).isSome = true) (h : Q (.str (Txt.item x k)) σ) : W2 c c.DV (subscriptTail value slice) (.str x) (.int k) σ Q := fun X s _ _ S r₁ r₂ => by
  (first | obtain ⟨_, rfl⟩ := DV.iX r₁ | obtain ⟨_, rfl⟩ := DV.sX r₁ | obtain rfl := DV.nX r₁ | obtain rfl := DV.bX r₁ | obtain rfl := DV.vX r₁ | obtain rfl := DVs.zX r₁ | cases r₁); (first | obtain ⟨_, rfl⟩ := DV.iX r₂ | obtain ⟨_, rfl⟩ := DV.sX r₂ | obtain rfl := DV.nX r₂ | obtain rfl := DV.bX r₂ | obtain rfl := DV.vX r₂ | obtain rfl := DVs.zX r₂ | cases r₂)
  exact tail_any (typeIs_str _ _ _) PySem.F.slot_str_getitem.lookup (SB.getItem hr hin (post_tk S h (Nat.le_succ _) (.str ..))) (hs _ _)
end
end Mine

namespace Mine
open PySem PySem.W PySem.Calls PyProof.Rows

section
variable {c : Cx} {σ τ : Sig} {X : List Addr} {s s₁ : Shared} {env : Env} {mg mb : Str → Option Value}

/-! statements -/
theorem X_nil {Q : Fl → Sig → Prop} (h : Q .next σ) : WX c [] env σ Q := fun X s S => wpAny_execs_nil (post_here S .next h)
theorem X_cons {st : Stmt} {rest : List Stmt} {Q : Fl → Sig → Prop} (h : WS c st env σ fun fl σ₁ => match fl with | .next => WX c rest env σ₁ Q | fl => Q fl σ₁) : WX c (st :: rest) env σ Q := fun X s S =>
  wpAny_execs_cons (h.then S fun v s₁ fl τ₁ h₁ r₁ S₁ x₁ => by
    cases r₁ with
    | next => exact post_of x₁ (h₁ X s₁ S₁)
    | brk => exact ⟨.brk, τ₁, h₁, .brk, S₁, x₁⟩
    | cont => exact ⟨.cont, τ₁, h₁, .cont, S₁, x₁⟩
    | ret r => exact ⟨.ret _, τ₁, h₁, .ret r, S₁, x₁⟩)
theorem S_Assign {x : Str} {px pos : Pos} {value : Expr} {Q : Fl → Sig → Prop} (hs : swapsWith value (some (.Name x px)) pos.line env = pure false) (h : WE c value env σ fun d σ₁ => WSt c x env d σ₁ fun _ σ₂ => Q .next σ₂) :
    WS c (.Assign [.Name x px] value pos) env σ Q := fun X s S =>
  wpAny_Assign_Name (h.then S fun v s₁ d τ₁ h₁ r₁ S₁ x₁ => Post.then (h₁ X s₁ v S₁ r₁) fun _ s₂ _ τ₂ h₂ _ S₂ x₂ => ⟨.next, τ₂, h₂, .next, S₂, x₁.trans x₂⟩) hs
theorem S_AssignSub {o i value : Expr} {px pos : Pos} {Q : Fl → Sig → Prop} (hs : swapsWith value (some (.Subscript o i px)) pos.line env = pure false)
    (h : WE c value env σ fun d σ₁ => WE c o env σ₁ fun d₁ σ₂ => WE c i env σ₂ fun d₂ σ₃ => W3 c eqR (fun ov iv v => setItem ov iv v) d₁ d₂ d σ₃ fun (_ : Unit) σ₄ => Q .next σ₄) : WS c (.Assign [.Subscript o i px] value pos) env σ Q := fun X s S =>
  wpAny_Assign_Subscript (h.then S fun v s₁ d τ₁ h₁ r₁ S₁ x₁ => h₁.then S₁ fun ov s₂ d₁ τ₂ h₂ r₂ S₂ x₂ => h₂.then S₂ fun iv s₃ d₂ τ₃ h₃ r₃ S₃ x₃ =>
    Post.then (h₃ X s₃ ov iv v S₃ (r₂.grow (x₃.grow X)) r₃ (r₁.grow ((x₂.trans x₃).grow X))) fun _ s₄ _ τ₄ h₄ _ S₄ x₄ => ⟨.next, τ₄, h₄, .next, S₄, x₁.trans (x₂.trans (x₃.trans x₄))⟩) hs
theorem S_AugName {x : Str} {px pos : Pos} {op : Operator} {value : Expr} {Q : Fl → Sig → Prop}
    (h : W0 c c.DV (loadName env x) σ fun d σ₁ => WE c value env σ₁ fun d' σ₂ => W2 c c.DV (inplaceOp op) d d' σ₂ fun d'' σ₃ => WSt c x env d'' σ₃ fun _ σ₄ => Q .next σ₄) : WS c (.AugAssign (.Name x px) op value pos) env σ Q := fun X s S =>
  wpAny_AugAssign_Name (h.then S fun v s₁ d τ₁ h₁ r₁ S₁ x₁ => h₁.then S₁ fun v' s₂ d₁ τ₂ h₂ r₂ S₂ x₂ => Post.then (h₂ X s₂ v v' S₂ (r₁.grow (x₂.grow X)) r₂) fun v'' s₃ d₂ τ₃ h₃ r₃ S₃ x₃ =>
    Post.then (h₃ X s₃ v'' S₃ r₃) fun _ s₄ _ τ₄ h₄ _ S₄ x₄ => ⟨.next, τ₄, h₄, .next, S₄, x₁.trans (x₂.trans (x₃.trans x₄))⟩)
theorem S_AugSub {o value : Expr} {x : Str} {px pos' pos : Pos} {op : Operator} {Q : Fl → Sig → Prop}
    (h : WE c o env σ fun d₁ σ₁ => WE c (.Name x px) env σ₁ fun d₂ σ₂ => W2 c c.DV getItem d₁ d₂ σ₂ fun d₃ σ₃ => WE c value env σ₃ fun d₄ σ₄ => W2 c c.DV (inplaceOp op) d₃ d₄ σ₄ fun d₅ σ₅ => W3 c eqR (fun ov iv v => setItem ov iv v) d₁ d₂ d₅ σ₅ fun (_ : Unit) σ₆ => Q .next σ₆) :
    WS c (.AugAssign (.Subscript o (.Name x px) pos') op value pos) env σ Q := fun X s S =>
  wpAny_AugAssign_Subscript (h.then S fun v₁ s₁ d₁ τ₁ h₁ r₁ S₁ x₁ => h₁.then S₁ fun v₂ s₂ d₂ τ₂ h₂ r₂ S₂ x₂ => Post.then (h₂ X s₂ v₁ v₂ S₂ (r₁.grow (x₂.grow X)) r₂) fun v₃ s₃ d₃ τ₃ h₃ r₃ S₃ x₃ => h₃.then S₃ fun v₄ s₄ d₄ τ₄ h₄ r₄ S₄ x₄ =>
    Post.then (h₄ X s₄ v₃ v₄ S₄ (r₃.grow (x₄.grow X)) r₄) fun v₅ s₅ d₅ τ₅ h₅ r₅ S₅ x₅ => Post.then (h₅ X s₅ v₁ v₂ v₅ S₅ (r₁.grow ((x₂.trans (x₃.trans (x₄.trans x₅))).grow X)) (r₂.grow ((x₃.trans (x₄.trans x₅)).grow X)) r₅) fun _ s₆ _ τ₆ h₆ _ S₆ x₆ =>
      ⟨.next, τ₆, h₆, .next, S₆, x₁.trans (x₂.trans (x₃.trans (x₄.trans (x₅.trans x₆))))⟩)
theorem S_Expr {e : Expr} {pos : Pos} {Q : Fl → Sig → Prop} (hi : interactive env = false) (hs : swapsWith e none pos.line env = pure false) (h : WE c e env σ fun d σ₁ => d = .none ∧ Q .next σ₁) : WS c (.Expr e pos) env σ Q := fun X s S =>
  wpAny_Expr (h.then S fun v s₁ d τ₁ h₁ r₁ S₁ x₁ => by obtain ⟨rfl, h₁⟩ := h₁; (first | obtain ⟨_, rfl⟩ := DV.iX r₁ | obtain ⟨_, rfl⟩ := DV.sX r₁ | obtain rfl := DV.nX r₁ | obtain rfl := DV.bX r₁ | obtain rfl := DV.vX r₁ | obtain rfl := DVs.zX r₁ | cases r₁); exact ⟨.next, τ₁, h₁, .next, S₁, x₁⟩) hi hs
theorem S_If {t : Expr} {b e : List Stmt} {pos : Pos} {Q : Fl → Sig → Prop} (h : WT c t env σ fun v σ₁ => if v then WX c b env σ₁ Q else WX c e env σ₁ Q) : WS c (.If t b e pos) env σ Q := fun X s S =>
  wpAny_If (h.then S fun b s₁ b' τ₁ h₁ r₁ S₁ x₁ => by
    cases (show b = b' from r₁)
    cases b with
    | true => exact post_of x₁ (h₁ X s₁ S₁)
    | false => exact post_of x₁ (h₁ X s₁ S₁))
theorem S_Return {e : Expr} {pos : Pos} {Q : Fl → Sig → Prop} (h : WE c e env σ fun d σ₁ => Q (.ret d) σ₁) : WS c (.Return (some e) pos) env σ Q := fun X s S =>
  wpAny_Return_some (h.then S fun v s₁ d τ₁ h₁ r₁ S₁ x₁ => ⟨.ret d, τ₁, h₁, .ret r₁, S₁, x₁⟩)
theorem S_Break {pos : Pos} {Q : Fl → Sig → Prop} (h : Q .brk σ) : WS c (.Break pos) env σ Q := fun X s S => by
  show wpAny _ _ (do standAt pos; pure Flow.brk) _ _ _
  exact wpAny_bind (wpAny_standAt (wpAny_pure (post_here S .brk h)))
theorem S_Continue {pos : Pos} {Q : Fl → Sig → Prop} (h : Q .cont σ) : WS c (.Continue pos) env σ Q := fun X s S => by
  show wpAny _ _ (do standAt pos; pure Flow.cont) _ _ _
  exact wpAny_bind (wpAny_standAt (wpAny_pure (post_here S .cont h)))
theorem L_local {x : Str} {d : D} {ns : List Str} {vs : List (Option D)} {f : Ob → Sig} {Q : D → Sig → Prop} (hk : env.scope.kind = .function) (hl : env.kindOf x = some .local)
    {L : Addr} (H : Hole L (.ns ns vs) σ f) (hL : env.locals = L) (hx : LocGet x d ns vs) (h : Q d σ) : W0 c c.DV (loadName env x) σ Q := fun X s S => by
  subst hL
  obtain ⟨m, hn, _, _, ha⟩ := H.hold S
  obtain ⟨i, h1, h2⟩ := hx.at
  have := ha i x _ h1 h2
  cases hm : m x with
  | none => rw [hm] at this; cases this
  | some v =>
    rw [hm] at this
    cases this with
    | some r => exact wpAny_loadName_local hk hl hn hm (post_here S r h)

/-! calls -/
noncomputable abbrev plainArgs (e : Expr) (rest : List Expr) (env : Env) : Prop := starEach (e :: rest) env = (false, eval e env) :: starEach rest env
theorem E_CallB {func e : Expr} {rest : List Expr} {pos : Pos} {Q : D → Sig → Prop} (he : eval (.Call func (e :: rest) [] pos) env = (do callWith pos (← eval func env) [] (backTo pos (starEach (e :: rest) env)) (backToKw pos (keywordEach [] env))))
    (hp : plainArgs e rest env) (hpl : (backTo pos (starEach rest env)).any (·.1) = false)
    (h : WE c func env σ fun d σ₁ => ∃ id, d = .val (.builtin id) ∧ WI c (e :: rest) env pos σ₁ fun ds σ₂ => WL c c.DV (fun vs => call (.builtin id) vs) ds σ₂ Q) : WE c (.Call func (e :: rest) [] pos) env σ Q := fun X s S =>
  Call_ (h.then S fun v s₁ d τ₁ h₁ r₁ S₁ x₁ => by
    obtain ⟨id, rfl, h₁⟩ := h₁
    (first | obtain ⟨_, rfl⟩ := DV.iX r₁ | obtain ⟨_, rfl⟩ := DV.sX r₁ | obtain rfl := DV.nX r₁ | obtain rfl := DV.bX r₁ | obtain rfl := DV.vX r₁ | obtain rfl := DVs.zX r₁ | cases r₁)
    exact callWith_builtin1 (h₁.then S₁ fun vs s₂ ds τ₂ h₂ r₂ S₂ x₂ => post_of (x₁.trans x₂) (h₂ X s₂ vs S₂ r₂)) hp hpl) he
theorem E_CallT {func e : Expr} {rest : List Expr} {pos : Pos} {Q : D → Sig → Prop} (he : eval (.Call func (e :: rest) [] pos) env = (do callWith pos (← eval func env) [] (backTo pos (starEach (e :: rest) env)) (backToKw pos (keywordEach [] env))))
    (hp : plainArgs e rest env) (hpl : (backTo pos (starEach rest env)).any (·.1) = false)
    (h : WE c func env σ fun d σ₁ => ∃ T, d = .val (.type T) ∧ WI c (e :: rest) env pos σ₁ fun ds σ₂ => WL c c.DV (fun vs => call (.type T) vs) ds σ₂ Q) : WE c (.Call func (e :: rest) [] pos) env σ Q := fun X s S =>
  Call_ (h.then S fun v s₁ d τ₁ h₁ r₁ S₁ x₁ => by
    obtain ⟨T, rfl, h₁⟩ := h₁
    (first | obtain ⟨_, rfl⟩ := DV.iX r₁ | obtain ⟨_, rfl⟩ := DV.sX r₁ | obtain rfl := DV.nX r₁ | obtain rfl := DV.bX r₁ | obtain rfl := DV.vX r₁ | obtain rfl := DVs.zX r₁ | cases r₁)
    have hw := h₁.then (P := fun vs s₂ => wpAny c.M c.A (call (.type T) vs) (c.Post X σ s c.DV Q) noE s₂) S₁ fun vs s₂ ds τ₂ h₂ r₂ S₂ x₂ => post_of (x₁.trans x₂) (h₂ X s₂ vs S₂ r₂)
    rw [hp] at hw ⊢
    exact PySem.callWith_type (first := []) (by show (false || (backTo pos (starEach rest env)).any (·.1)) = false; rw [hpl]; rfl) (evalArgs_plain hw)) he
/-- a def of the text's top is called by place -/
theorem E_CallF {func e : Expr} {rest : List Expr} {pos : Pos} {Q : D → Sig → Prop} (he : eval (.Call func (e :: rest) [] pos) env = (do callWith pos (← eval func env) [] (backTo pos (starEach (e :: rest) env)) (backToKw pos (keywordEach [] env))))
    (hp : plainArgs e rest env)
    (h : WE c func env σ fun d σ₁ => ∃ a o fd, d = .val (.ref a) ∧ c.B.get? a = some o ∧ o.data = .func fd ∧ WI c (e :: rest) env pos σ₁ fun ds σ₂ => WL c c.DV (fun vs => call (.ref a) vs) ds σ₂ Q) : WE c (.Call func (e :: rest) [] pos) env σ Q := fun X s S =>
  Call_ (h.then S fun v s₁ d τ₁ h₁ r₁ S₁ x₁ => by
    obtain ⟨a, o, fd, rfl, hb, hd, h₁⟩ := h₁
    (first | obtain ⟨_, rfl⟩ := DV.iX r₁ | obtain ⟨_, rfl⟩ := DV.sX r₁ | obtain rfl := DV.nX r₁ | obtain rfl := DV.bX r₁ | obtain rfl := DV.vX r₁ | obtain rfl := DVs.zX r₁ | cases r₁)
    exact callWith_def hd (h₁.then S₁ fun vs s₂ ds τ₂ h₂ r₂ S₂ x₂ => ⟨S₂.keep _ _ hb, post_of (x₁.trans x₂) (h₂ X s₂ vs S₂ r₂)⟩) hp) he

/-- a method of a built-in type is got -/
noncomputable def GM (c : Cx) (name : Str) (d : D) (σ : Sig) (id : String) : Prop :=
  ∀ X s v pl (P : Value × List Value → Shared → Prop), c.St X σ s → c.DV s (X ++ adrs σ) v d → P (.builtin id, [v]) s → wpAny c.M c.A (getMethod v name pl) P noE s
noncomputable abbrev methForm (o : Expr) (name : Str) (apos pos : Pos) (args : List Expr) (env : Env) (pl : Sem Bool) : Prop :=
  eval (.Call (.Attribute o name apos) args [] pos) env = (do
      let ov ← eval o env
      standAt apos.atName
      let (f, first) ← holding [ov] (getMethod ov name pl)
      callWith pos f first (backTo pos (starEach args env)) [])
theorem E_Meth0 {o : Expr} {name : Str} {apos pos : Pos} {pl : Sem Bool} {Q : D → Sig → Prop} (he : methForm o name apos pos [] env pl)
    (h : WE c o env σ fun d σ₁ => ∃ id, GM c name d σ₁ id ∧ W1 c c.DV (fun v => call (.builtin id) [v]) d σ₁ Q) : WE c (.Call (.Attribute o name apos) [] [] pos) env σ Q := fun X s S =>
  MethodCall_ (h.then S fun v s₁ d τ₁ h₁ r₁ S₁ x₁ => by
    obtain ⟨id, g, h₁⟩ := h₁
    exact g X s₁ v _ _ S₁ r₁ (callWith_method0 (post_of x₁ (h₁ X s₁ v S₁ r₁)))) he
theorem E_Meth {o e : Expr} {rest : List Expr} {name : Str} {apos pos : Pos} {pl : Sem Bool} {Q : D → Sig → Prop} (he : methForm o name apos pos (e :: rest) env pl)
    (hp : plainArgs e rest env) (hpl : (backTo pos (starEach rest env)).any (·.1) = false)
    (h : WE c o env σ fun d σ₁ => ∃ id, GM c name d σ₁ id ∧ WI c (e :: rest) env pos σ₁ fun ds σ₂ => WL c c.DV (fun vs => call (.builtin id) vs) (d :: ds) σ₂ Q) : WE c (.Call (.Attribute o name apos) (e :: rest) [] pos) env σ Q := fun X s S =>
  MethodCall_ (h.then S fun v s₁ d τ₁ h₁ r₁ S₁ x₁ => by
    obtain ⟨id, g, h₁⟩ := h₁
    exact g X s₁ v _ _ S₁ r₁ (callWith_method1 (h₁.then S₁ fun vs s₂ ds τ₂ h₂ r₂ S₂ x₂ => post_of (x₁.trans x₂) (h₂ X s₂ (v :: vs) S₂ (.cons (r₁.grow (x₂.grow X)) r₂))) hp hpl)) he
end
end Mine

namespace Mine
open PySem PySem.W PySem.Calls PyProof.Rows

/-- an iterator has moved -/
structure Tick (it : Addr) (s s₁ : Shared) : Prop where
  rest : s₁ = { s with heap := s₁.heap, toks := s₁.toks }
  ext : ∀ b o, b ≠ it → s.heap.get? b = some o → s₁.heap.get? b = some o
  toks : s.toks ≤ s₁.toks

/-- it draws the data ds, one after the other, out of what was there at s₀ -/
structure ItOk (c : Cx) (target : Expr) (s₀ : Shared) (bad₀ : List Addr) (ds : List D) (K : Sig → Prop) (it : Addr) (I : Nat → Heap → Prop) : Prop where
  stable : ∀ i h h', I i h → (∀ o, h.get? it = some o → h'.get? it = some o) → I i h'
  has : ∀ i h, I i h → ∃ o, h.get? it = some o
  item : ∀ X σ s i d, Grow s₀ bad₀ s (X ++ adrs σ) → K σ → c.St X σ s → I i s.heap → ds[i]? = some d →
    wpAny c.M c.A (pyNext (.ref it)) (fun r s₁ => ∃ v, r = some v ∧ wpAny c.M c.A (letOwnedTupleGo target (.ref it) v) (fun _ s₂ => Tick it s s₂ ∧ I (i + 1) s₂.heap ∧ (it ∈ X → c.DV s₂ (X ++ adrs σ) v d)) noE s₁) noE s
  done : ∀ X σ s, Grow s₀ bad₀ s (X ++ adrs σ) → K σ → c.St X σ s → I ds.length s.heap → wpAny c.M c.A (pyNext (.ref it)) (fun r s₁ => r = none ∧ Tick it s s₁) noE s
  self : ∀ s P, I 0 s.heap → P (.ref it) s → wpAny c.M c.A (pyIter (.ref it)) P noE s

noncomputable def Src (c : Cx) (target : Expr) (d : D) (σ : Sig) (K : Sig → Prop) (ds : List D) : Prop :=
  ∀ X s v, c.St X σ s → c.DV s (X ++ adrs σ) v d → wpAny c.M c.A (pyIter v) (fun r s₁ => ∃ it I, r = .ref it ∧ s.heap.get? it = none ∧ I 0 s₁.heap ∧ ItOk c target s (X ++ adrs σ) ds K it I ∧
    s₁ = { s with heap := s₁.heap, toks := s₁.toks } ∧ (∀ b o, s.heap.get? b = some o → s₁.heap.get? b = some o) ∧ s.toks ≤ s₁.toks) noE s

section
variable {c : Cx} {σ τ : Sig} {X : List Addr} {s s₁ s₂ : Shared} {it : Addr}

theorem St.guard (S : c.St X σ s) (hk : ∀ b o, s.heap.get? b = some o → s₁.heap.get? b = some o) (ht : s.toks ≤ s₁.toks) (hn : s.heap.get? it = none) (he : ∃ o, s₁.heap.get? it = some o) : c.St (it :: X) σ s₁ := by
  have hne : ∀ b o, s.heap.get? b = some o → b ≠ it := fun b o e q => by rw [q, hn] at e; cases e
  refine ⟨fun b o e => hk b o (S.keep b o e), S.nodup, fun a ha hm => ?_, fun a ha => ?_, S.fresh, fun p hp => ?_, Nat.lt_of_lt_of_le S.toks ht, S.mods⟩
  · rcases List.mem_cons.mp hm with rfl | hm
    · obtain ⟨o, e⟩ := S.has ha; exact hne _ o e rfl
    · exact S.apart a ha hm
  · rcases List.mem_cons.mp ha with rfl | ha
    · exact he
    · exact (S.xold a ha).imp fun o e => hk a o e
  · refine (S.hold p hp).grow ⟨fun b o _ e => hk b o e, fun b o e hb hm => ?_, ht⟩ fun o e => hk _ o e
    rcases List.mem_append.mp hm with q | q
    · rcases List.mem_cons.mp q with q | q
      · exact hne b o e q
      · exact hb (List.mem_append.mpr (.inl q))
    · exact hb (List.mem_append.mpr (.inr q))
theorem St.tick (S : c.St (it :: X) σ s) (T : Tick it s s₁) (he : ∃ o, s₁.heap.get? it = some o) (hB : c.B.get? it = none) : c.St (it :: X) σ s₁ := by
  have hi : it ∉ adrs σ := fun hm => S.apart _ hm (.head _)
  refine ⟨fun b o e => T.ext b o (fun q => by rw [q, hB] at e; cases e) (S.keep b o e), S.nodup, S.apart, fun a ha => ?_, S.fresh, fun p hp => ?_, Nat.lt_of_lt_of_le S.toks T.toks, S.mods⟩
  · by_cases q : a = it
    · exact q ▸ he
    · exact (S.xold a ha).imp fun o e => T.ext a o q e
  · refine (S.hold p hp).grow ⟨fun b o hb e => T.ext b o (fun q => hb (q ▸ List.mem_append.mpr (.inl (.head _)))) e, fun _ _ _ hb => hb, T.toks⟩ fun o e => T.ext _ o (fun q => hi (q ▸ List.mem_map_of_mem (f := (·.1)) hp)) e
theorem St.tickOff (S : c.St (it :: X) σ s) (T : Tick it s s₁) (hX : it ∉ X) (hB : c.B.get? it = none) : c.St X σ s₁ := by
  have hi : it ∉ adrs σ := fun hm => S.apart _ hm (.head _)
  refine ⟨fun b o e => T.ext b o (fun q => by rw [q, hB] at e; cases e) (S.keep b o e), S.nodup, fun a ha hm => S.apart a ha (.tail _ hm), fun a ha => ?_, S.fresh, fun p hp => ?_, Nat.lt_of_lt_of_le S.toks T.toks, S.mods⟩
  · exact (S.xold a (.tail _ ha)).imp fun o e => T.ext a o (fun q => hX (q ▸ ha)) e
  · refine (S.hold p hp).grow ⟨fun b o hb e => T.ext b o (fun q => hb (q ▸ List.mem_append.mpr (.inl (.head _)))) e, fun b o _ hb hm => hb ?_, T.toks⟩ fun o e => T.ext _ o (fun q => hi (q ▸ List.mem_map_of_mem (f := (·.1)) hp)) e
    rcases List.mem_append.mp hm with q | q
    · exact List.mem_append.mpr (.inl (.tail _ q))
    · exact List.mem_append.mpr (.inr q)
theorem St.unguard (S : c.St (it :: X) σ s) : c.St X σ s := by
  refine ⟨S.keep, S.nodup, fun a ha hm => S.apart a ha (.tail _ hm), fun a ha => S.xold a (.tail _ ha), S.fresh, fun p hp => (S.hold p hp).grow (Grow.refl fun b hm => ?_) fun _ e => e, S.toks, S.mods⟩
  rcases List.mem_append.mp hm with q | q
  · exact List.mem_append.mpr (.inl (.tail _ q))
  · exact List.mem_append.mpr (.inr q)
theorem Step.growG (x : Step σ τ s s₁) (hn : s.heap.get? it = none) (X : List Addr) : Grow s (X ++ adrs σ) s₁ ((it :: X) ++ adrs τ) := by
  have g := x.grow X
  refine ⟨g.keep, fun b o e hb hm => ?_, g.toks⟩
  rcases List.mem_cons.mp hm with q | q
  · rw [q, hn] at e; cases e
  · exact g.bad b o e hb q
theorem Step.tick (x : Step σ τ s s₁) (T : Tick it s₁ s₂) (hn : s.heap.get? it = none) : Step σ τ s s₂ :=
  ⟨by rw [T.rest, x.rest], fun b o hb e => T.ext b o (fun q => by rw [q, hn] at e; cases e) (x.ext b o hb e), x.new, Nat.le_trans x.toks T.toks⟩
theorem noE_le {α : Type} {t : Sem α} {P : α → Shared → Prop} {E : Value → Shared → Prop} (h : wpAny c.M c.A t P noE s) : wpAny c.M c.A t P E s := wpAny_mono h (fun _ _ p => p) fun _ _ e => e.elim

/-- a for over the data that are left -/
noncomputable def Loop (c : Cx) (target : Expr) (body : List Stmt) (env : Env) (K : Sig → Prop) : List D → Sig → (Fl → Sig → Prop) → Prop
  | [], σ, Q => K σ ∧ Q .next σ
  | d :: ds, σ, Q => K σ ∧ W1 c eqR (assign target env) d σ fun (_ : Unit) σ₁ => WX c body env σ₁ fun fl σ₂ => match fl with
    | .next => Loop c target body env K ds σ₂ Q
    | .cont => Loop c target body env K ds σ₂ Q
    | .brk => Q .next σ₂
    | .ret d => Q (.ret d) σ₂

theorem S_For {target iter : Expr} {body : List Stmt} {pos : Pos} {env : Env} {Q : Fl → Sig → Prop} (hs : ∀ x, foldedSetIterable iter env x = pure x)
    (h : WE c iter env σ fun d σ₁ => ∃ K ds, Src c target d σ₁ K ds ∧ Loop c target body env K ds σ₁ Q) : WS c (.For target iter body [] pos) env σ Q := fun X s S => by
  refine wpAny_For (h.then S fun v s₁ d τ₁ h₁ r₁ S₁ x₁ => ?_) hs
  obtain ⟨K, ds, src, lp⟩ := h₁
  refine wpAny_mono (src X s₁ v S₁ r₁) (fun r s₂ hr => ?_) fun _ _ e => e
  obtain ⟨it, I, rfl, hn, hI, ok, hr, hk, ht⟩ := hr
  have hB : c.B.get? it = none := by
    cases q : c.B.get? it with
    | none => rfl
    | some o => rw [S₁.keep _ _ q] at hn; cases hn
  have hX : it ∉ X := fun hm => by obtain ⟨o, e⟩ := S₁.xold _ hm; rw [hn] at e; cases e
  have st₀ : Step τ₁ τ₁ s₁ s₂ := ⟨hr, fun b o _ e => hk b o e, fun a ha => .inl ha, ht⟩
  refine codeAny_forLoop_any (fun n s' => ∃ i σi, n = ds.length - i ∧ i ≤ ds.length ∧ Loop c target body env K (ds.drop i) σi Q ∧ c.St (it :: X) σi s' ∧ I i s'.heap ∧ Step τ₁ σi s₁ s') ?_ ds.length
    ⟨0, τ₁, rfl, Nat.zero_le _, lp, S₁.guard hk ht hn (ok.has _ _ hI), hI, st₀⟩
  rintro n s' ⟨i, σi, rfl, hi, lp, S', hI', x'⟩
  rcases Nat.lt_or_ge i ds.length with hlt | hge
  · have hd : ds.drop i = ds[i] :: ds.drop (i + 1) := List.drop_eq_getElem_cons hlt
    rw [hd] at lp
    obtain ⟨hK, lp⟩ := lp
    refine noE_le (wpAny_mono (ok.item (it :: X) σi s' i ds[i] (x'.growG hn X) hK S' hI' (by simp [hlt])) (fun r s₃ hr => ?_) fun _ _ e => e)
    obtain ⟨v, rfl, hg⟩ := hr
    refine noE_le (wpAny_mono hg (fun _ s₄ h₄ => ?_) fun _ _ e => e)
    obtain ⟨T, hI₄, rv⟩ := h₄
    have S₄ := S'.tick T (ok.has _ _ hI₄) hB
    have x₄ := x'.tick T hn
    refine noE_le (wpAny_mono (lp (it :: X) s₄ v S₄ (rv (.head _))) (fun _ s₅ h₅ => ?_) fun _ _ e => e)
    obtain ⟨_, τ₅, h₅, _, S₅, x₅⟩ := h₅
    refine noE_le (wpAny_mono (h₅ (it :: X) s₅ S₅) (fun f s₆ h₆ => ?_) fun _ _ e => e)
    obtain ⟨fl, τ₆, h₆, r₆, S₆, x₆⟩ := h₆
    have x56 := x₅.trans x₆
    have x46 := x₄.trans x56
    have hI₆ : I (i + 1) s₆.heap := ok.stable _ _ _ hI₄ fun o e => x56.ext _ o (fun hm => S₄.apart _ hm (.head _)) e
    cases r₆ with
    | next => exact ⟨ds.length - (i + 1), by omega, i + 1, τ₆, rfl, hlt, h₆, S₆, hI₆, x46⟩
    | cont => exact ⟨ds.length - (i + 1), by omega, i + 1, τ₆, rfl, hlt, h₆, S₆, hI₆, x46⟩
    | brk => exact ⟨.next, τ₆, h₆, .next, S₆.unguard, x₁.trans x46⟩
    | ret r =>
      refine ⟨.ret _, τ₆, h₆, .ret (r.grow (Grow.refl fun b hm => ?_)), S₆.unguard, x₁.trans x46⟩
      rcases List.mem_append.mp hm with q | q
      · exact List.mem_append.mpr (.inl (.tail _ q))
      · exact List.mem_append.mpr (.inr q)
  · have he : i = ds.length := Nat.le_antisymm hi hge
    subst he
    rw [List.drop_length] at lp
    refine noE_le (wpAny_mono (ok.done (it :: X) σi s' (x'.growG hn X) lp.1 S' hI') (fun r s₃ hr => ?_) fun _ _ e => e)
    obtain ⟨rfl, T⟩ := hr
    exact wpAny_execs_nil ⟨.next, σi, lp.2, .next, S'.tickOff T hX hB, x₁.trans (x'.tick T hn)⟩

theorem S_While {test : Expr} {body : List Stmt} {pos : Pos} {env : Env} {Q : Fl → Sig → Prop} (I : Nat → Sig → Prop)
    (turn : ∀ n σ, I n σ → WT c test env σ fun b σ₁ => if b then WX c body env σ₁ (fun fl σ₂ => match fl with | .next => ∃ m, m < n ∧ I m σ₂ | .cont => ∃ m, m < n ∧ I m σ₂ | .brk => Q .next σ₂ | .ret d => Q (.ret d) σ₂) else Q .next σ₁)
    (n : Nat) (h : I n σ) : WS c (.While test body [] pos) env σ Q := fun X s S => by
  refine wpAny_While (codeAny_whileLoop (fun n s' => ∃ σi, I n σi ∧ c.St X σi s' ∧ Step σ σi s s') ?_ n ⟨σ, h, S, .refl ..⟩)
  rintro n s' ⟨σi, hI, S', x'⟩
  refine noE_le (wpAny_mono (turn n σi hI X s' S') (fun b s₂ h₂ => ?_) fun _ _ e => e)
  obtain ⟨b', τ₂, h₂, r₂, S₂, x₂⟩ := h₂
  cases (show b = b' from r₂)
  cases b with
  | false => exact wpAny_execs_nil ⟨.next, τ₂, h₂, .next, S₂, x'.trans x₂⟩
  | true =>
    refine noE_le (wpAny_mono (h₂ X s₂ S₂) (fun f s₃ h₃ => ?_) fun _ _ e => e)
    obtain ⟨fl, τ₃, h₃, r₃, S₃, x₃⟩ := h₃
    have x := x'.trans (x₂.trans x₃)
    cases r₃ with
    | next => obtain ⟨m, hm, hI⟩ := h₃; exact ⟨m, hm, τ₃, hI, S₃, x⟩
    | cont => obtain ⟨m, hm, hI⟩ := h₃; exact ⟨m, hm, τ₃, hI, S₃, x⟩
    | brk => exact ⟨.next, τ₃, h₃, .next, S₃, x⟩
    | ret r => exact ⟨.ret _, τ₃, h₃, .ret r, S₃, x⟩
end
end Mine

namespace Mine
open PySem PySem.W PySem.Calls PyProof.Rows

section
variable {c : Cx} {σ τ : Sig} {X : List Addr} {s s₁ s₂ : Shared} {it : Addr} {target : Expr} {env : Env}

theorem Tick.same {h' : Heap} (hs : Heap.SameBut it s.heap h') {n : Nat} (hn : s.toks ≤ n) : Tick it s { s with heap := h', toks := n } := ⟨rfl, fun b o hb e => (hs.2 b hb).trans e, hn⟩
theorem Tick.ext' {h' : Heap} (hs : Heap.ExtBut it s.heap h') : Tick it s { s with heap := h' } := ⟨rfl, fun b o hb e => hs b o hb e, Nat.le_refl _⟩
theorem Tick.grow {bad : List Addr} (T : Tick it s s₁) (h : it ∈ bad) : Grow s bad s₁ bad := ⟨fun b o hb e => T.ext b o (fun q => hb (q ▸ h)) e, fun _ _ _ hb => hb, T.toks⟩

theorem src_seq {d : D} {ds : List D} (hh : c.A.handled = none) (h : Seqs σ d ds) : Src c target d σ (fun σ' => Seqs σ' d ds) ds := fun X s v S r => by
  obtain ⟨l, vs, n, rfl, e, q⟩ := h.at S r
  refine wpAny_pyIter_list (isList_lst e) ⟨s.heap.objs.size, fun i h => h.IsListIter s.heap.objs.size l i, rfl, get_size, ⟨_, Heap.get?_push_size _ rfl, rfl, rfl⟩, ⟨?_, ?_, ?_, ?_, ?_⟩, rfl, fun b o e => Heap.get?_push_of_some _ e, Nat.le_refl _⟩
  · exact fun i h h' ⟨o, ho, r⟩ k => ⟨o, k _ ho, r⟩
  · exact fun i h ⟨o, ho, r⟩ => ⟨o, ho⟩
  · intro X' σ' s' i d' g hK S' hI hd
    obtain ⟨l', vs', n', el, e', q'⟩ := hK.at S' (r.grow g)
    cases el
    obtain ⟨v', hv', r'⟩ := q'.get hd
    refine wpAny_pyNext_list_item hI (isList_lst e') (by simpa using hv') fun h' hI' hs' => ⟨v', rfl, ?_⟩
    have T : Tick s.heap.objs.size s' { s' with heap := h' } := Tick.same hs' (Nat.le_refl _)
    exact letGo_listiter hI' ⟨T, hI', fun hm => r'.grow (T.grow (List.mem_append.mpr (.inl hm)))⟩
  · intro X' σ' s' g hK S' hI
    obtain ⟨l', vs', n', el, e', q'⟩ := hK.at S' (r.grow g)
    cases el
    exact wpAny_pyNext_list_end hh hI (isList_lst e') (by rw [List.getElem?_toArray, List.getElem?_eq_none (by rw [q'.length]; exact Nat.le_refl _)]) fun h' he => ⟨rfl, Tick.ext' he⟩
  · exact fun s P hI h => wpAny_pyIter_listiter hI h

/-- the signs of a str of plain signs -/
noncomputable def signs (x : Str) : List D := x.cps.toList.map fun n => .sg ⟨#[n]⟩
theorem src_str {x : Str} {tx : Str} {px : Pos} (hh : c.A.handled = none) (ha : (x.cps.all fun n => decide (n < 128)) = true) : Src c (.Name tx px) (.str x) σ (fun _ => True) (signs x) := fun X s v S r => by
  obtain ⟨t, rfl⟩ := DV.sX r
  refine wpAny_pyIter_ascii ha ⟨s.heap.objs.size, fun i h => h.IsStrIter s.heap.objs.size "str_ascii_iterator" x t i, rfl, get_size, ⟨_, Heap.get?_push_size _ rfl, rfl, rfl⟩, ⟨?_, ?_, ?_, ?_, ?_⟩, rfl, fun b o e => Heap.get?_push_of_some _ e, Nat.le_refl _⟩
  · exact fun i h h' ⟨o, ho, r⟩ k => ⟨o, k _ ho, r⟩
  · exact fun i h ⟨o, ho, r⟩ => ⟨o, ho⟩
  · intro X' σ' s' i d' g hK S' hI hd
    obtain ⟨k, hk, rfl⟩ : ∃ k, x.cps[i]? = some k ∧ .sg ⟨#[k]⟩ = d' := by
      unfold signs at hd
      rw [List.getElem?_map] at hd
      cases q : x.cps.toList[i]? with
      | none => rw [q] at hd; cases hd
      | some k => rw [q] at hd; cases hd; exact ⟨k, by simpa using q, rfl⟩
    refine wpAny_pyNext_ascii_item hI hk fun h' hI' hs' => ⟨_, rfl, ?_⟩
    have T : Tick s.heap.objs.size s' { s' with heap := h', toks := s'.toks + 1 } := Tick.same hs' (Nat.le_succ _)
    refine wpAny_pure ⟨T, hI', fun hm => .sg S'.toks (Nat.lt_succ_self _)⟩
  · intro X' σ' s' g hK S' hI
    refine wpAny_pyNext_ascii_end hh hI ?_ fun h' he => ⟨rfl, Tick.ext' he⟩
    have : (signs x).length = x.cps.size := by simp [signs]
    rw [this]; simp
  · exact fun s P hI h => wpAny_pyIter_striter_ascii hI h
/-- drawn from a str whose token is its own: the same -/
theorem Src.weak {x : Str} {K : Sig → Prop} {ds : List D} (h : Src c target (.str x) σ K ds) : Src c target (.sg x) σ K ds := fun X s v S r => h X s v S r.weak

noncomputable def upTo (n : Nat) : List D := (List.range n).map fun (k : Nat) => .int (k : Int)
theorem src_rng {n : Nat} {tx : Str} {px : Pos} (hh : c.A.handled = none) (hsm : Builtin.Range.small 0 n 1 = true) (hsz : Builtin.Range.rangeSize 0 n 1 = n) : Src c (.Name tx px) (.rng n) σ (fun _ => True) (upTo n) := fun X s v S r => by
  obtain ⟨_, _, _, _, rfl, e, _⟩ := DV.rX r
  refine wpAny_pyIter_range e hsm ⟨s.heap.objs.size, fun i h => IsRangeIter h s.heap.objs.size (i : Int) ((n : Int) - i) 1, rfl, get_size, ?_, ⟨?_, ?_, ?_, ?_, ?_⟩, rfl, fun b o e => Heap.get?_push_of_some _ e, Nat.le_refl _⟩
  · have := Heap.get?_push_size s.heap (o := { cls := .type "range_iterator", data := .fields #[rawInt 0, rawInt (Builtin.Range.rangeSize 0 n 1), rawInt 1] }) rfl
    rw [hsz] at this ⊢
    simpa using this
  · exact fun i h h' e k => k _ e
  · exact fun i h e => ⟨_, e⟩
  · intro X' σ' s' i d' g hK S' hI hd
    obtain ⟨hi, rfl⟩ : i < n ∧ .int (i : Int) = d' := by
      unfold upTo at hd
      rw [List.getElem?_map] at hd
      cases q : (List.range n)[i]? with
      | none => rw [q] at hd; cases hd
      | some k =>
        rw [q] at hd
        obtain ⟨l, e⟩ := List.getElem?_eq_some_iff.mp q
        rw [List.getElem_range] at e
        subst e
        exact ⟨by simpa using l, by simpa using hd⟩
    refine wpAny_pyNext_range_item hI (by omega) fun h' hI' hs' => ⟨_, rfl, ?_⟩
    have T : Tick s.heap.objs.size s' { s' with heap := h', toks := s'.toks + 1 } := Tick.same hs' (Nat.le_succ _)
    refine wpAny_pure ⟨T, ?_, fun hm => .int ..⟩
    have e1 : ((i + 1 : Nat) : Int) = (i : Int) + 1 := by omega
    have e2 : (n : Int) - ((i + 1 : Nat) : Int) = (n : Int) - i - 1 := by omega
    rw [e1] at e2 ⊢
    rw [e2]
    exact hI'
  · intro X' σ' s' g hK S' hI
    have : (upTo n).length = n := by simp [upTo]
    rw [this] at hI
    exact wpAny_pyNext_range_end hh hI (by omega) fun h' he => ⟨rfl, Tick.ext' he⟩
  · exact fun s P hI h => wpAny_pyIter_rangeiter hI h

theorem DKs.get {bad : List Addr} {kvs : List (Str × Value)} {es : List (Str × D)} {j : Nat} {k : Str} {d : D} (r : DKs c.prog c.w s bad kvs es) (h : es[j]? = some (k, d)) : ∃ v, kvs[j]? = some (k, v) ∧ c.DV s bad v d := by
  induction kvs generalizing es j with
  | nil => (first | obtain ⟨_, rfl⟩ := DV.iX r | obtain ⟨_, rfl⟩ := DV.sX r | obtain rfl := DV.nX r | obtain rfl := DV.bX r | obtain rfl := DV.vX r | obtain rfl := DVs.zX r | cases r); cases h
  | cons v vs ih =>
    cases r with
    | cons x q =>
      cases j with
      | zero => cases h; exact ⟨_, rfl, x⟩
      | succ j => exact ih q h
theorem DKs.length {bad : List Addr} : ∀ {kvs : List (Str × Value)} {es : List (Str × D)}, DKs c.prog c.w s bad kvs es → kvs.length = es.length
  | _, _, .nil => rfl
  | _, _, .cons _ r => congrArg (· + 1) (DKs.length r)
theorem str_of_is {k : Str} {v : Value} {bad : List Addr} (h : (strKind c.prog c.w).is k v = true) : c.DV s bad v (.str k) := by
  obtain ⟨t, rfl⟩ := Value.isStrOf_shape h
  exact .str ..
theorem dictAt_at {h h' : Heap} {a : Addr} {kvs : List (Str × Value)} {ep : Nat} (x : h.DictAt (strKind c.prog c.w) a kvs ep) : ∃ o, h.get? a = some o ∧ (h'.get? a = some o → h'.DictAt (strKind c.prog c.w) a kvs ep) :=
  let ⟨o, es, ho, r⟩ := x
  ⟨o, ho, fun e => ⟨o, es, e, r⟩⟩

theorem src_keys {es : List (Str × D)} (hh : c.A.handled = none) : Src c target (.dct es) σ (fun _ => True) (es.map fun e => .str e.1) := fun X s v S r => by
  obtain ⟨a, kvs, rfl, hm, x, nb, q⟩ := DV.dX r
  obtain ⟨ep, x⟩ := x.dictAt
  refine wpAny_pyIter_dict hm x ⟨s.heap.objs.size, fun i h => h.IsKeyIter s.heap.objs.size a i kvs.length ep, rfl, get_size, ⟨_, Heap.get?_push_size _ rfl, rfl, rfl⟩, ⟨?_, ?_, ?_, ?_, ?_⟩, rfl, fun b o e => Heap.get?_push_of_some _ e, Nat.le_refl _⟩
  · exact fun i h h' ⟨o, ho, r⟩ k => ⟨o, k _ ho, r⟩
  · exact fun i h ⟨o, ho, r⟩ => ⟨o, ho⟩
  · intro X' σ' s' i d' g hK S' hI hd
    obtain ⟨o, ho, hx⟩ := dictAt_at (h' := s'.heap) x
    have x' := hx (g.keep _ _ nb ho)
    rw [List.getElem?_map] at hd
    cases he : es[i]? with
    | none => rw [he] at hd; cases hd
    | some p =>
      rw [he] at hd; cases hd
      obtain ⟨v', hv', r'⟩ := q.get (k := p.1) (d := p.2) he
      refine wpAny_pyNext_dict_item hI x' hv' fun key h' hkey hI' hs' => ⟨_, rfl, ?_⟩
      have T : Tick s.heap.objs.size s' { s' with heap := h' } := Tick.same hs' (Nat.le_refl _)
      exact letGo_keyiter hI' ⟨T, hI', fun hm => str_of_is hkey⟩
  · intro X' σ' s' g hK S' hI
    obtain ⟨o, ho, hx⟩ := dictAt_at (h' := s'.heap) x
    have x' := hx (g.keep _ _ nb ho)
    exact wpAny_pyNext_dict_end hh hI x' (by rw [List.getElem?_eq_none]; rw [q.length, List.length_map]; exact Nat.le_refl _) fun h' he => ⟨rfl, Tick.ext' he⟩
  · exact fun s P hI h => wpAny_pyIter_keyiter hI h

theorem src_vals {es : List (Str × D)} (hh : c.A.handled = none) : Src c target (.vals es) σ (fun _ => True) (es.map (·.2)) := fun X s v S r => by
  obtain ⟨a, d, rfl, ev, nv, r⟩ := DV.vsX r
  obtain ⟨_, kvs, ⟨⟩, hm, x, nb, q⟩ := DV.dX r
  obtain ⟨ep, x⟩ := x.dictAt
  refine wpAny_pyIter_values ⟨_, ev, rfl, rfl⟩ x ⟨s.heap.objs.size, fun i h => h.IsValIter s.heap.objs.size d i kvs.length ep, rfl, get_size, ⟨_, Heap.get?_push_size _ rfl, rfl, rfl⟩, ⟨?_, ?_, ?_, ?_, ?_⟩, rfl, fun b o e => Heap.get?_push_of_some _ e, Nat.le_refl _⟩
  · exact fun i h h' ⟨o, ho, r⟩ k => ⟨o, k _ ho, r⟩
  · exact fun i h ⟨o, ho, r⟩ => ⟨o, ho⟩
  · intro X' σ' s' i d' g hK S' hI hd
    obtain ⟨o, ho, hx⟩ := dictAt_at (h' := s'.heap) x
    have x' := hx (g.keep _ _ nb ho)
    rw [List.getElem?_map] at hd
    cases he : es[i]? with
    | none => rw [he] at hd; cases hd
    | some p =>
      rw [he] at hd; cases hd
      obtain ⟨v', hv', r'⟩ := q.get (k := p.1) (d := p.2) he
      refine wpAny_pyNext_values_item hI x' hv' fun h' hI' hs' => ⟨_, rfl, ?_⟩
      have T : Tick s.heap.objs.size s' { s' with heap := h' } := Tick.same hs' (Nat.le_refl _)
      exact letGo_valiter hI' ⟨T, hI', fun hm => (r'.grow g).grow (T.grow (List.mem_append.mpr (.inl hm)))⟩
  · intro X' σ' s' g hK S' hI
    obtain ⟨o, ho, hx⟩ := dictAt_at (h' := s'.heap) x
    have x' := hx (g.keep _ _ nb ho)
    exact wpAny_pyNext_values_end hh hI x' (by rw [List.getElem?_eq_none]; rw [q.length, List.length_map]; exact Nat.le_refl _) fun h' he => ⟨rfl, Tick.ext' he⟩
  · exact fun s P hI h => wpAny_pyIter_valiter hI h

theorem src_items {es : List (Str × D)} {elts : List Expr} {k : Nat} {tp : Pos} (hh : c.A.handled = none) : Src c (.Tuple elts k tp) (.items es) σ (fun _ => True) (es.map fun e => .tup [.str e.1, e.2]) := fun X s v S r => by
  obtain ⟨a, d, rfl, ev, nv, r⟩ := DV.isX r
  obtain ⟨_, kvs, ⟨⟩, hm, x, nb, q⟩ := DV.dX r
  obtain ⟨ep, x⟩ := x.dictAt
  refine wpAny_pyIter_items ⟨_, ev, rfl, rfl⟩ x ⟨s.heap.objs.size, fun i h => ∃ ok ov, IsItemIter h s.heap.objs.size d i kvs.length ep ok ov, rfl, get_size, ⟨_, _, Heap.get?_push_size _ rfl⟩, ⟨?_, ?_, ?_, ?_, ?_⟩, rfl, fun b o e => Heap.get?_push_of_some _ e, Nat.le_refl _⟩
  · exact fun i h h' ⟨ok, ov, e⟩ k => ⟨ok, ov, k _ e⟩
  · exact fun i h ⟨ok, ov, e⟩ => ⟨_, e⟩
  · rintro X' σ' s' i d' g hK S' ⟨ok, ov, hI⟩ hd
    obtain ⟨o, ho, hx⟩ := dictAt_at (h' := s'.heap) x
    have x' := hx (g.keep _ _ nb ho)
    rw [List.getElem?_map] at hd
    cases he : es[i]? with
    | none => rw [he] at hd; cases hd
    | some p =>
      rw [he] at hd; cases hd
      obtain ⟨v', hv', r'⟩ := q.get (k := p.1) (d := p.2) he
      refine wpAny_pyNext_items_item hI x' hv' fun key h' hkey hout htup hsz hk => ⟨_, rfl, ?_⟩
      refine wpAny_letOwnedTupleGo_items hout fun h'' hI'' hs'' => ?_
      have hne : s'.heap.objs.size ≠ s.heap.objs.size := Nat.ne_of_gt (Heap.lt_size hI)
      have T : Tick s.heap.objs.size s' { s' with heap := h'' } := ⟨rfl, fun b o hb e => (hs''.2 b hb).trans (hk b o hb e), Nat.le_refl _⟩
      refine ⟨T, ⟨_, _, hI''⟩, fun hm => ?_⟩
      exact .tup (n := 0) ((hs''.2 _ hne).trans htup) (fresh_bad S') (.cons (str_of_is hkey) (.cons ((r'.grow g).grow (T.grow (List.mem_append.mpr (.inl hm)))) .nil))
  · rintro X' σ' s' g hK S' ⟨ok, ov, hI⟩
    obtain ⟨o, ho, hx⟩ := dictAt_at (h' := s'.heap) x
    have x' := hx (g.keep _ _ nb ho)
    exact wpAny_pyNext_items_end hh hI x' (by rw [List.getElem?_eq_none]; rw [q.length, List.length_map]; exact Nat.le_refl _) fun h' he => ⟨rfl, Tick.ext' he⟩
  · rintro s P ⟨ok, ov, hI⟩ h
    exact kcp_self hI h

/-- a tuple is unpacked into as many targets -/
noncomputable def Assigns (c : Cx) (env : Env) : List Expr → List D → Sig → (Unit → Sig → Prop) → Prop
  | t :: ts, d :: ds, σ, Q => WA c t env d σ fun _ σ₁ => Assigns c env ts ds σ₁ Q
  | [], [], σ, Q => Q () σ
  | _, _, _, _ => False
theorem assigns_run {es : List Expr} : ∀ {ds : List D} {σ : Sig} {Q : Unit → Sig → Prop} {vs : List Value} {s : Shared}, Assigns c env es ds σ Q → c.St X σ s → c.DVs s (X ++ adrs σ) vs ds →
    wpAny c.M c.A (assignInOrder (es.map fun e => assign e env) vs) (c.Post X σ s eqR Q) noE s := by
  induction es with
  | nil =>
    intro ds σ Q vs s h S r
    cases r with
    | nil => exact wpAny_pure (post_here S rfl h)
    | cons _ _ => exact h.elim
  | cons e es ih =>
    intro ds σ Q vs s h S r
    cases r with
    | nil => exact h.elim
    | cons x q =>
      refine assignInOrder_cons (Post.then (h X s _ S x) fun _ s₁ _ τ₁ h₁ _ S₁ x₁ => post_of x₁ (ih h₁ S₁ (q.grow (x₁.grow X))))
theorem A_Tuple {elts : List Expr} {k : Nat} {pos : Pos} {ds : List D} {Q : Unit → Sig → Prop} (hh : c.A.handled = none) (he : assignEach elts env = elts.map fun e => (false, assign e env)) (hl : elts.length = ds.length)
    (h : Assigns c env elts ds σ Q) : WA c (.Tuple elts k pos) env (.tup ds) σ Q := fun X s v S r => by
  obtain ⟨a, vs, n, rfl, e, nb, q⟩ := DV.tX r
  show wpAny _ _ (standAt pos >>= fun _ => unpack (.ref a) (assignEach elts env)) _ _ _
  refine wpAny_bind (wpAny_standAt ?_)
  rw [he]
  refine PyProof.Rows.unpack_tuple hh (items := vs.toArray) ⟨_, e, rfl, n, rfl⟩ (by rw [List.length_map, hl, ← q.length, List.size_toArray]) (by simp) fun h' hx => ?_
  have k' : ∀ b o, s.heap.get? b = some o → h'.get? b = some o := fun b o e => hx b o (Nat.ne_of_lt (Heap.lt_size e)) e
  have st : Step σ σ s { s with heap := h' } := .ext' rfl k' (Nat.le_refl _)
  have e2 : (elts.map fun e => (false, assign e env)).map (·.2) = elts.map fun e => assign e env := by simp
  rw [e2]
  exact post_of st (assigns_run h (S.ext k' (Nat.le_refl _)) (by simpa using q.grow (st.grow X)))
end
end Mine

namespace Mine
open PySem PySem.W PySem.Calls PyProof.Rows

section
variable {c : Cx} {σ τ : Sig} {X X' : List Addr} {s s₁ s₂ : Shared} {it a : Addr} {target : Expr} {env : Env}

/-- an object that is owned by others has been turned -/
theorem St.turned (S : c.St X σ s) (hm : a ∈ X) (T : Tick a s s₁) (he : ∃ o, s₁.heap.get? a = some o) (hB : c.B.get? a = none) : c.St X σ s₁ := by
  have hi : a ∉ adrs σ := fun h => S.apart _ h hm
  refine ⟨fun b o e => T.ext b o (fun q => by rw [q, hB] at e; cases e) (S.keep b o e), S.nodup, S.apart, fun b hb => ?_, S.fresh, fun p hp => ?_, Nat.lt_of_lt_of_le S.toks T.toks, S.mods⟩
  · by_cases q : b = a
    · exact q ▸ he
    · exact (S.xold b hb).imp fun o e => T.ext b o q e
  · refine (S.hold p hp).grow ⟨fun b o hb e => T.ext b o (fun q => hb (q ▸ List.mem_append.mpr (.inl hm))) e, fun _ _ _ hb => hb, T.toks⟩ fun o e => T.ext _ o (fun q => hi (q ▸ List.mem_map_of_mem (f := (·.1)) hp)) e
/-- objects that nobody asks for any more may go -/
theorem St.shed {ρ : Sig} {T : List Addr} (S : c.St X' (ρ ++ σ) s) (hr : ∀ b o, b ∉ T → s.heap.get? b = some o → s₁.heap.get? b = some o) (ht : s.toks ≤ s₁.toks) (h1 : ∀ b ∈ T, b ∈ X' ++ adrs (ρ ++ σ)) (h2 : ∀ b ∈ T, b ∉ adrs σ) (h3 : ∀ b ∈ T, b ∉ X)
    (h4 : ∀ b ∈ T, c.B.get? b = none) (h5 : ∀ b ∈ X, b ∈ X') : c.St X σ s₁ ∧ Grow s (X' ++ adrs (ρ ++ σ)) s₁ (X ++ adrs σ) := by
  have e : adrs (ρ ++ σ) = adrs ρ ++ adrs σ := List.map_append ..
  have g : Grow s (X' ++ adrs (ρ ++ σ)) s₁ (X ++ adrs σ) := by
    refine ⟨fun b o hb q => hr b o (fun hT => hb (h1 b hT)) q, fun b o _ hb hm => hb ?_, ht⟩
    rw [e]
    rcases List.mem_append.mp hm with q | q
    · exact List.mem_append.mpr (.inl (h5 b q))
    · exact List.mem_append.mpr (.inr (List.mem_append.mpr (.inr q)))
  have nd := S.nodup
  rw [e, List.nodup_append] at nd
  refine ⟨⟨fun b o q => hr b o (fun hT => by rw [h4 b hT] at q; cases q) (S.keep b o q), nd.2.1, fun a ha hm => S.apart a (by rw [e]; exact List.mem_append.mpr (.inr ha)) (h5 a hm), fun a ha => (S.xold a (h5 a ha)).imp fun o q => hr a o (fun hT => h3 a hT ha) q,
    fun a ha => S.fresh a (by rw [e]; exact List.mem_append.mpr (.inr ha)), fun p hp => (S.hold p (List.mem_append.mpr (.inr hp))).grow g fun o q => hr _ o (fun hT => h2 _ hT (List.mem_map_of_mem (f := (·.1)) hp)) q, Nat.lt_of_lt_of_le S.toks ht, S.mods⟩, g⟩

theorem compLoop_any {elt iter : Expr} {ifs : List Expr} {scope : Scope} {pos : Pos} {itv acc : Value} {R : Result → Shared → Prop} (I : Nat → Shared → Prop)
    (turn : ∀ n s, I n s → wpAny c.M c.A (pyNext itv) (fun r s₁ => match r with
      | none => R (.ok .next) s₁
      | some v => wpAny c.M c.A (letOwnedTupleGo target itv v) (fun _ s₀ => wpAny c.M c.A (assign target env v) (fun _ s₂ =>
          wpAny c.M c.A (forIn ifs true fun t r => if r = true then do let ok ← isTrue t env (eval t env); pure (ForInStep.yield ok) else pure (ForInStep.yield r)) (fun ok s₃ => if ok = true then wpAny c.M c.A (eval elt env) (fun x s₄ =>
            wpAny c.M c.A (call (.builtin "list.append") [acc, x]) (fun _ s₅ => ∃ m, m < n ∧ I m s₅) noE s₄) noE s₃
            else ∃ m, m < n ∧ I m s₃) noE s₂) noE s₀) noE s₁) noE s)
    (n : Nat) (h : I n s) : codeAny c.M c.A (.compLoop (.ListComp elt [⟨target, iter, ifs, 0⟩] scope pos) 0 itv acc env) R s := by
  refine codeAny_loop rfl I (fun n s hI => ?_) n h
  show wpAny _ _ ((compTurn (.ListComp elt [⟨target, iter, ifs, 0⟩] scope pos) 0 itv acc env).onRaise (fun x => do noteFrame x env; theTreesLotGoes x)) _ _ s
  refine wpAny_noted ?_
  rw [compTurn_list]
  refine wpAny_bind (wpAny_standAt (wpAny_bind (noE_le (wpAny_mono (turn n s hI) (fun r s₁ h₁ => ?_) fun _ _ e => e))))
  cases r with
  | none => exact wpAny_pure h₁
  | some v =>
    refine wpAny_bind (noE_le (wpAny_mono h₁ (fun _ s₀ h₀ => ?_) fun _ _ e => e))
    refine wpAny_bind (noE_le (wpAny_mono h₀ (fun _ s₂ h₂ => ?_) fun _ _ e => e))
    refine wpAny_bind (noE_le (wpAny_mono h₂ (fun ok s₃ h₃ => ?_) fun _ _ e => e))
    cases ok with
    | false => exact wpAny_pure ⟨rfl, h₃⟩
    | true => exact wpAny_bind (wpAny_bind (noE_le (wpAny_mono h₃ (fun x s₄ h₄ => wpAny_bind (noE_le (wpAny_mono h₄ (fun _ s₅ h₅ => wpAny_pure (wpAny_pure ⟨rfl, h₅⟩)) fun _ _ e => e))) fun _ _ e => e)))

noncomputable abbrev Tests (c : Cx) (ifs : List Expr) (env : Env) (σ : Sig) (Q : Bool → Sig → Prop) : Prop :=
  W0 c eqR (forIn ifs true fun t r => if r = true then do let ok ← isTrue t env (eval t env); pure (ForInStep.yield ok) else pure (ForInStep.yield r)) σ Q
theorem Tests_nil {Q : Bool → Sig → Prop} (h : Q true σ) : Tests c [] env σ Q := fun X s S => wpAny_tests_nil (post_here S rfl h)
theorem Tests_one {t : Expr} {Q : Bool → Sig → Prop} (h : WT c t env σ Q) : Tests c [t] env σ Q := fun X s S => wpAny_tests_one (h X s S)

/-- one turn of a comprehension: it puts in what o says -/
noncomputable def CompItem (c : Cx) (target : Expr) (ifs : List Expr) (elt : Expr) (env : Env) (names : List Str) (σ : Sig) (d : D) (o : Option D) : Prop :=
  ∀ vals : List (Option D), vals.length = names.length → W1 c eqR (assign target env) d ((env.locals, .ns names vals) :: σ) fun (_ : Unit) τ => ∃ vals', τ = (env.locals, .ns names vals') :: σ ∧ vals'.length = names.length ∧
    Tests c ifs env τ fun b τ' => τ' = τ ∧ b = o.isSome ∧ ∀ y, o = some y → WE c elt env τ fun y' τ'' => τ'' = τ ∧ y' = y

/-- behind a comprehension -/
noncomputable def CompEnd (c : Cx) (X : List Addr) (σ : Sig) (s₁ : Shared) (d : D) (acc : Value) (C : Addr) (s' : Shared) : Prop :=
  ∃ m, s'.heap.Ns C m ∧ c.St (C :: X) σ s' ∧ c.DV s' ((C :: X) ++ adrs σ) acc d ∧ Step σ σ s₁ s' ∧ s₁.heap.get? C = none

theorem filterMap_take_succ {F : D → Option D} {ds : List D} {i : Nat} {d : D} (h : ds[i]? = some d) : (ds.take (i + 1)).filterMap F = (ds.take i).filterMap F ++ (F d).toList := by
  rw [List.take_add_one, h, List.filterMap_append]
  cases hF : F d <;> simp [hF]

theorem compList_core {elt iter : Expr} {ifs : List Expr} {scope : Scope} {cl : List (Str × Addr)} {pos : Pos} {names : List Str} {K : Sig → Prop} {ds : List D} {F : D → Option D} {d : D} {v : Value}
    (hcell : ∀ y ∈ scope.names, y.2 ≠ .cell) (hkind : scope.kind = .function) (hnd : names.Nodup) (hsz : ds.length ≤ sizeLine)
    (src : Src c target d σ K ds) (hK : ∀ p, K (p :: σ)) (items : ∀ C, ∀ d ∈ ds, CompItem c target ifs elt (compEnvC scope cl C env) names σ d (F d)) (S : c.St X σ s) (r : c.DV s (X ++ adrs σ) v d) :
    wpAny c.M c.A (pyIter v) (fun itv s₂ => wpAny c.M c.A (newList []) (fun acc s₃ => wpAny c.M c.A (newFunctionEnv scope env.globals cl [] env.qual none .none (some env)) (fun cenv s₄ =>
      codeAny c.M c.A (.compStart (.ListComp elt [⟨target, iter, ifs, 0⟩] scope pos) 0 itv acc { cenv with scope := relabel scope env }) (fun r s' => match r with | .ok _ => CompEnd c X σ s (.lst (ds.filterMap F)) acc cenv.locals s' | .error _ => False) s₄) noE s₃) noE s₂) noE s := by
  refine wpAny_mono (src X s v S r) (fun itv s₂ hr => ?_) fun _ _ e => e
  obtain ⟨it, I, rfl, hn, hI, ok, hr, hk, ht⟩ := hr
  have S₂ := S.guard hk ht hn (ok.has _ _ hI)
  refine wpAny_newObj_type (wpAny_newFunctionEnv hcell (by intro y hy; simp at hy) (fun h₁ hns hsb => ?_) hkind) (by show (0 : Nat) ≤ sizeLine; exact Nat.zero_le _)
  dsimp only at hns hsb ⊢
  generalize hacc : s₂.heap.objs.size = acc at hns hsb ⊢
  generalize hs₃ : s₂.heap.push { cls := .type "list", data := .seq ([] : List Value).toArray } = H₃ at hns hsb ⊢
  generalize hC : H₃.objs.size = C at hns hsb ⊢
  have k23 : ∀ b o, s₂.heap.get? b = some o → H₃.get? b = some o := fun b o e => by rw [← hs₃]; exact Heap.get?_push_of_some _ e
  have a₃ : H₃.get? acc = some (lstObj [] 0) := by rw [← hs₃, ← hacc]; exact Heap.get?_push_size _ rfl
  have aC : acc ≠ C := by rw [← hC]; exact Nat.ne_of_lt (Heap.lt_size a₃)
  have nacc : s₂.heap.get? acc = none := by rw [← hacc]; exact get_size
  have k34 : ∀ b o, H₃.get? b = some o → h₁.get? b = some o := fun b o e => hsb.extBut b o (by rw [← hC]; exact Nat.ne_of_lt (Heap.lt_size e)) (Heap.get?_push_of_some _ e)
  have S₃ : c.St (acc :: it :: X) σ { s₂ with heap := H₃ } := S₂.guard k23 (Nat.le_refl _) nacc ⟨_, a₃⟩
  have nC : H₃.get? C = none := by rw [← hC]; exact get_size
  have S₄ : c.St (acc :: it :: X) ((C, .ns names (List.replicate names.length none)) :: σ) { s₂ with heap := h₁ } := by
    refine S₃.push k34 (Nat.le_refl _) nC ⟨_, hns, hnd, List.length_replicate, fun i y d e1 e2 => ?_⟩
    have : d = none := by
      obtain ⟨_, e⟩ := List.getElem?_eq_some_iff.mp e2
      rw [List.getElem_replicate] at e; exact e.symm
    subst this
    exact .none
  have nit : c.B.get? it = none := by
    cases q : c.B.get? it with
    | none => rfl
    | some o => rw [S.keep _ _ q] at hn; cases hn
  have nacc₀ : s.heap.get? acc = none := by
    cases q : s.heap.get? acc with
    | none => rfl
    | some o => rw [hk _ _ q] at nacc; cases nacc
  have naccB : c.B.get? acc = none := by
    cases q : c.B.get? acc with
    | none => rfl
    | some o => rw [S.keep _ _ q] at nacc₀; cases nacc₀
  have nC₀ : s.heap.get? C = none := by
    cases q : s.heap.get? C with
    | none => rfl
    | some o => rw [k23 _ _ (hk _ _ q)] at nC; cases nC
  have nCB : c.B.get? C = none := by
    cases q : c.B.get? C with
    | none => rfl
    | some o => rw [S.keep _ _ q] at nC₀; cases nC₀
  have hitacc : it ≠ acc := fun q => by obtain ⟨o, e⟩ := ok.has _ _ hI; rw [q, nacc] at e; cases e
  have hitC : it ≠ C := fun q => by obtain ⟨o, e⟩ := ok.has _ _ hI; rw [k23 _ _ (q ▸ e)] at nC; cases nC
  have notX : ∀ b, s.heap.get? b = none → b ∉ X := fun b hb hm => by obtain ⟨o, e⟩ := S.xold b hm; rw [hb] at e; cases e
  have notσ : ∀ b, s.heap.get? b = none → b ∉ adrs σ := fun b hb hm => by obtain ⟨o, e⟩ := S.has hm; rw [hb] at e; cases e
  have st₄ : Step σ ((C, .ns names (List.replicate names.length none)) :: σ) s { s₂ with heap := h₁ } :=
    ⟨by rw [hr], fun b o hb e => k34 _ _ (k23 _ _ (hk _ _ e)), fun a ha => by rcases List.mem_cons.mp ha with rfl | ha; exact .inr nC₀; exact .inl ha, ht⟩
  have loop : codeAny c.M c.A (.compLoop (.ListComp elt [⟨target, iter, ifs, 0⟩] scope pos) 0 (.ref it) (.ref acc) (compEnvC scope cl C env)) (fun r s' => match r with | .ok _ => CompEnd c X σ s (.lst (ds.filterMap F)) (.ref acc) C s' | .error _ => False) { s₂ with heap := h₁ } := by
    refine compLoop_any (fun n s' => ∃ i vals vs k, n = ds.length - i ∧ i ≤ ds.length ∧ vals.length = names.length ∧ s'.heap.get? acc = some (lstObj vs k) ∧ c.DVs s' ((acc :: it :: X) ++ adrs ((C, .ns names vals) :: σ)) vs ((ds.take i).filterMap F) ∧
      c.St (acc :: it :: X) ((C, .ns names vals) :: σ) s' ∧ I i s'.heap ∧ Step σ ((C, .ns names vals) :: σ) s s') ?_ ds.length
      ⟨0, _, [], 0, rfl, Nat.zero_le _, List.length_replicate, k34 _ _ a₃, by simpa using .nil, S₄, ok.stable _ _ _ hI fun o e => k34 _ _ (k23 _ _ e), st₄⟩
    rintro n s' ⟨i, vals, vs, k, rfl, hi, hvl, ha, hvs, S', hI', x'⟩
    have gr : Grow s (X ++ adrs σ) s' ((acc :: it :: X) ++ adrs ((C, .ns names vals) :: σ)) := by
      have g := x'.grow X
      refine ⟨g.keep, fun b o e hb hm => ?_, g.toks⟩
      rcases List.mem_cons.mp hm with q | hm
      · rw [q, nacc₀] at e; cases e
      · rcases List.mem_cons.mp hm with q | hm
        · rw [q, hn] at e; cases e
        · exact g.bad b o e hb hm
    rcases Nat.lt_or_ge i ds.length with hlt | hge
    · have hdi : ds[i]? = some ds[i] := by simp [hlt]
      refine wpAny_mono (ok.item (acc :: it :: X) _ s' i ds[i] gr (hK _) S' hI' hdi) (fun r s₃ hr => ?_) fun _ _ e => e
      obtain ⟨v', rfl, hg⟩ := hr
      refine wpAny_mono hg (fun _ s₅ h₅ => ?_) fun _ _ e => e
      obtain ⟨T, hI₅, rv⟩ := h₅
      have S₅ := S'.turned (.tail _ (.head _)) T (ok.has _ _ hI₅) nit
      have x₅ := x'.tick T hn
      have a₅ : s₅.heap.get? acc = some (lstObj vs k) := T.ext _ _ (Ne.symm hitacc) ha
      have d₅ := hvs.grow (T.grow (List.mem_append.mpr (.inl (.tail _ (.head _)))))
      refine (items C ds[i] (List.getElem_mem hlt) vals hvl (acc :: it :: X) s₅ v' S₅ (rv (.tail _ (.head _)))) |> fun hw => wpAny_mono hw (fun _ s₆ h₆ => ?_) fun _ _ e => e
      obtain ⟨_, τ₆, ⟨vals', rfl, hvl', ht⟩, _, S₆, x₆⟩ := h₆
      refine wpAny_mono (ht (acc :: it :: X) s₆ S₆) (fun okb s₇ h₇ => ?_) fun _ _ e => e
      obtain ⟨b, τ₇, ⟨rfl, hb, hel⟩, hbb, S₇, x₇⟩ := h₇
      cases (show okb = b from hbb)
      have accnot : acc ∉ adrs ((C, .ns names vals') :: σ) := fun hm => S₇.apart _ hm (.head _)
      have itnot : it ∉ adrs ((C, .ns names vals') :: σ) := fun hm => S₇.apart _ hm (.tail _ (.head _))
      have x57 := x₆.trans x₇
      have a₇ : s₇.heap.get? acc = some (lstObj vs k) := x57.ext _ _ accnot a₅
      have d₇ := d₅.grow (x57.grow (acc :: it :: X))
      have I₇ : I (i + 1) s₇.heap := ok.stable _ _ _ hI₅ fun o e => x57.ext _ o itnot e
      have st₇ := x₅.trans x57
      cases hF : F ds[i] with
      | none =>
        rw [hF] at hb
        subst hb
        exact ⟨ds.length - (i + 1), by omega, i + 1, vals', vs, k, rfl, hlt, hvl', a₇, by rw [filterMap_take_succ hdi, hF, Option.toList_none, List.append_nil]; exact d₇, S₇, I₇, st₇⟩
      | some y =>
        rw [hF] at hb
        subst hb
        simp only [Option.isSome_some, if_true]
        refine wpAny_mono (hel y hF (acc :: it :: X) s₇ S₇) (fun xv s₈ h₈ => ?_) fun _ _ e => e
        obtain ⟨y', τ₈, ⟨rfl, rfl⟩, r₈, S₈, x₈⟩ := h₈
        have a₈ : s₈.heap.get? acc = some (lstObj vs k) := x₈.ext _ _ accnot a₇
        have d₈ := d₇.grow (x₈.grow (acc :: it :: X))
        have I₈ : I (i + 1) s₈.heap := ok.stable _ _ _ I₇ fun o e => x₈.ext _ o itnot e
        have hlen : vs.toArray.size ≤ sizeLine := by
          rw [List.size_toArray, d₈.length]
          exact Nat.le_trans (List.length_filterMap_le _ _) (Nat.le_trans (List.length_take_le _ _) (Nat.le_trans hi hsz))
        refine wpAny_list_append_plain ⟨k, a₈⟩ (fun h' hp hs' => ?_) hlen
        obtain ⟨k', hp⟩ := hp
        have T₉ : Tick acc s₈ { s₈ with heap := h' } := Tick.same hs' (Nat.le_refl _)
        have ep : vs.toArray.push xv = (vs ++ [xv]).toArray := by simp
        rw [ep] at hp
        have g₉ := T₉.grow (bad := (acc :: it :: X) ++ adrs ((C, .ns names vals') :: σ)) (.head _)
        refine ⟨ds.length - (i + 1), by omega, i + 1, vals', vs ++ [xv], k', rfl, hlt, hvl', hp, ?_, S₈.turned (.head _) T₉ ⟨_, hp⟩ naccB, ok.stable _ _ _ I₈ fun o e => T₉.ext _ o hitacc e, (st₇.trans x₈).tick T₉ nacc₀⟩
        rw [filterMap_take_succ hdi, hF]
        exact (d₈.grow g₉).append (.cons (r₈.grow g₉) .nil)
    · have he : i = ds.length := Nat.le_antisymm hi hge
      subst he
      refine wpAny_mono (ok.done (acc :: it :: X) _ s' gr (hK _) S' hI') (fun r s₃ hr => ?_) fun _ _ e => e
      obtain ⟨rfl, T⟩ := hr
      obtain ⟨m, hnC, _⟩ := S'.hold _ (.head _)
      have S'' := (show c.St (acc :: it :: X) ([(C, .ns names vals)] ++ σ) s' from S').lend
      obtain ⟨S₉, g₉⟩ := (show c.St (adrs [(C, .ns names vals)] ++ (acc :: it :: X)) (([] : Sig) ++ σ) s' from S'').shed (X := C :: X) (s₁ := s₃) (T := [it]) (fun b o hb e => T.ext b o (fun q => hb (by simp [q])) e) T.toks
        (fun b hb => by simp at hb; simp [hb]) (fun b hb => by simp at hb; rw [hb]; exact notσ _ hn) (fun b hb => by simp at hb; rw [hb]; simp [hitC, notX _ hn]) (fun b hb => by simp at hb; rw [hb]; exact nit) (fun b hb => by simp at hb ⊢; rcases hb with h | h <;> simp [h])
      refine ⟨m, hnC.at' fun o e => T.ext _ o (Ne.symm hitC) e, S₉, ?_, ⟨(x'.tick T hn).rest, (x'.tick T hn).ext, fun a ha => .inl ha, (x'.tick T hn).toks⟩, nC₀⟩
      refine .lst (T.ext _ _ (Ne.symm hitacc) ha) (by simp [aC, notX _ nacc₀]; simpa using notσ _ nacc₀) ?_
      rw [List.take_length] at hvs
      refine (hvs.grow (Grow.refl fun b hm => ?_)).grow g₉
      simp at hm ⊢
      rcases hm with h | h | h | h | h <;> simp [h]
  refine codeAny_compStart_list loop (noE_le (ok.self _ _ ?_ loop))
  exact ok.stable _ _ _ hI fun o e => k34 _ _ (k23 _ _ e)
end
end Mine

namespace Mine
open PySem PySem.W PySem.Calls PyProof.Rows

section
variable {c : Cx} {σ τ : Sig} {X X' : List Addr} {s s₁ s₂ : Shared} {it a : Addr} {target : Expr} {env : Env}

theorem CompEnd.close {d : D} {acc : Value} {C : Addr} {s' : Shared} {Q : D → Sig → Prop} (E : CompEnd c X σ s d acc C s') (S : c.St X σ s) (q : Q d σ) : ∃ m, s'.heap.Ns C m ∧ ∀ h', Heap.SameBut C s'.heap h' → c.Post X σ s c.DV Q acc { s' with heap := h' } := by
  obtain ⟨m, hn, S', r, x, nC⟩ := E
  refine ⟨m, hn, fun h' hs' => ?_⟩
  have nX : C ∉ X := fun hm => by obtain ⟨o, e⟩ := S.xold _ hm; rw [nC] at e; cases e
  have nσ : C ∉ adrs σ := fun hm => S'.apart _ hm (.head _)
  have nB : c.B.get? C = none := by
    cases q : c.B.get? C with
    | none => rfl
    | some o => rw [S.keep _ _ q] at nC; cases nC
  obtain ⟨S'', g⟩ := (show c.St (C :: X) (([] : Sig) ++ σ) s' from S').shed (X := X) (s₁ := { s' with heap := h' }) (T := [C]) (fun b o hb e => (hs'.2 b (fun q => hb (by simp [q]))).trans e) (Nat.le_refl _)
    (fun b hb => by simp at hb; simp [hb]) (fun b hb => by simp at hb; rw [hb]; exact nσ) (fun b hb => by simp at hb; rw [hb]; exact nX) (fun b hb => by simp at hb; rw [hb]; exact nB) (fun b hb => .tail _ hb)
  exact ⟨d, σ, q, r.grow g, S'', ⟨by rw [x.rest], fun b o hb e => (hs'.2 b (fun q => by rw [q, nC] at e; cases e)).trans (x.ext b o hb e), x.new, x.toks⟩⟩

structure CompOk (names : List Str) (scope : Scope) (cl : List (Str × Addr)) (env : Env) : Prop where
  clos : closureFor scope env = pure cl
  cell : ∀ y ∈ scope.names, y.2 ≠ .cell
  kind : scope.kind = .function
  look : ∀ y ∈ scope.names, y.2 = .local → scope.names.lookup y.1 = some .local
  nodup : names.Nodup

theorem E_ListComp {elt iter : Expr} {ifs : List Expr} {scope : Scope} {pos : Pos} {Q : D → Sig → Prop} (names : List Str) (cl : List (Str × Addr)) (ok : CompOk names scope cl env) (hs : ∀ x, foldedSetIterable iter env x = pure x)
    (h : WE c iter env σ fun d σ₁ => ∃ (K : Sig → Prop) (ds : List D) (F : D → Option D), ds.length ≤ sizeLine ∧ Src c target d σ₁ K ds ∧ (∀ p, K (p :: σ₁)) ∧ (∀ C, ∀ d ∈ ds, CompItem c target ifs elt (compEnvC scope cl C env) names σ₁ d (F d)) ∧ Q (.lst (ds.filterMap F)) σ₁) :
    WE c (.ListComp elt [⟨target, iter, ifs, 0⟩] scope pos) env σ Q := fun X s S => by
  rw [eval_ListComp]
  refine wpAny_comprehension_free (use := none) rfl hs ok.clos ok.kind ok.look (h.then S fun v s₁ d τ₁ h₁ r₁ S₁ x₁ => ?_)
  obtain ⟨K, ds, F, hz, src, hK, items, hq⟩ := h₁
  refine wpAny_mono (compList_core (iter := iter) (pos := pos) ok.cell ok.kind ok.nodup hz src hK items S₁ r₁) (fun itv s₂ h₂ => wpAny_mono h₂ (fun acc s₃ h₃ => wpAny_mono h₃ (fun cenv s₄ h₄ => codeAny_mono h₄ fun r s' hr => ?_) fun _ _ e => e) fun _ _ e => e) fun _ _ e => e
  cases r with
  | error e => exact hr.elim
  | ok f =>
    obtain ⟨m, hn, hc⟩ := hr.close S₁ hq
    exact ⟨m, hn, fun h' hs' => (hc h' hs').after x₁⟩

theorem S_AssignComp {x : Str} {px spos : Pos} {elt iter : Expr} {ifs : List Expr} {scope : Scope} {pos : Pos} {Q : Fl → Sig → Prop} (names : List Str) (cl : List (Str × Addr)) (ok : CompOk names scope cl env) (hs : ∀ x, foldedSetIterable iter env x = pure x)
    (hsw : swapsWith (.ListComp elt [⟨target, iter, ifs, 0⟩] scope pos) (some (.Name x px)) spos.line env = pure true)
    (h : WE c iter env σ fun d σ₁ => ∃ (K : Sig → Prop) (ds : List D) (F : D → Option D), ds.length ≤ sizeLine ∧ Src c target d σ₁ K ds ∧ (∀ p, K (p :: σ₁)) ∧ (∀ C, ∀ d ∈ ds, CompItem c target ifs elt (compEnvC scope cl C env) names σ₁ d (F d)) ∧
      WSt c x env (.lst (ds.filterMap F)) σ₁ fun _ σ₂ => Q .next σ₂) :
    WS c (.Assign [.Name x px] (.ListComp elt [⟨target, iter, ifs, 0⟩] scope pos) spos) env σ Q := fun X s S => by
  rw [exec_Assign_Name_used _ _ _ _ hsw]
  refine wpAny_bind (wpAny_standAt (wpAny_bind ?_))
  show wpAny _ _ (do let _ ← comprehension (.ListComp elt [⟨target, iter, ifs, 0⟩] scope pos) scope env _ (newList []) false (eval iter env) (some (assign (.Name x px) env))) _ _ s
  refine wpAny_bind (wpAny_mono (wpAny_comprehension_free (use := some (assign (.Name x px) env)) (Q := fun _ s' => c.Post X σ s (FR c.prog c.w) Q .next s') rfl hs ok.clos ok.kind ok.look (h.then S fun v s₁ d τ₁ h₁ r₁ S₁ x₁ => ?_)) (fun _ s' hq => wpAny_pure (wpAny_pure hq)) fun _ _ e => e)
  obtain ⟨K, ds, F, hz, src, hK, items, hq⟩ := h₁
  refine wpAny_mono (compList_core (iter := iter) (pos := pos) ok.cell ok.kind ok.nodup hz src hK items S₁ r₁) (fun itv s₂ h₂ => wpAny_mono h₂ (fun acc s₃ h₃ => wpAny_mono h₃ (fun cenv s₄ h₄ => codeAny_mono h₄ fun r s' hr => ?_) fun _ _ e => e) fun _ _ e => e) fun _ _ e => e
  cases r with
  | error e => exact hr.elim
  | ok f =>
    obtain ⟨m, hn, S', r', x', nC⟩ := hr
    show wpAny _ _ (assign (.Name x px) env acc) _ _ _
    refine wpAny_assign_Name (wpAny_mono (hq (cenv.locals :: X) s' acc S' r') (fun _ s₅ h₅ => ?_) fun _ _ e => e)
    obtain ⟨_, τ₅, h₅, _, S₅, x₅⟩ := h₅
    have nσ : cenv.locals ∉ adrs τ₁ := fun hm => S'.apart _ hm (.head _)
    have nτ : cenv.locals ∉ adrs τ₅ := fun hm => S₅.apart _ hm (.head _)
    have nX : cenv.locals ∉ X := fun hm => by obtain ⟨o, e⟩ := S₁.xold _ hm; rw [nC] at e; cases e
    have nB : c.B.get? cenv.locals = none := by
      cases q : c.B.get? cenv.locals with
      | none => rfl
      | some o => rw [S₁.keep _ _ q] at nC; cases nC
    refine ⟨m, hn.at' fun o e => x₅.ext _ o nσ e, fun h' hs' => ?_⟩
    obtain ⟨S'', g⟩ := (show c.St (cenv.locals :: X) (([] : Sig) ++ τ₅) s₅ from S₅).shed (X := X) (s₁ := { s₅ with heap := h' }) (T := [cenv.locals]) (fun b o hb e => (hs'.2 b (fun q => hb (by simp [q]))).trans e) (Nat.le_refl _)
      (fun b hb => by simp at hb; simp [hb]) (fun b hb => by simp at hb; rw [hb]; exact nτ) (fun b hb => by simp at hb; rw [hb]; exact nX) (fun b hb => by simp at hb; rw [hb]; exact nB) (fun b hb => .tail _ hb)
    have y := x'.trans x₅
    exact ⟨.next, τ₅, h₅, .next, S'', x₁.trans ⟨by rw [y.rest], fun b o hb e => (hs'.2 b (fun q => by rw [q, nC] at e; cases e)).trans (y.ext b o hb e), y.new, y.toks⟩⟩

/-! dicts with strs for keys -/
noncomputable def putK (es : List (Str × D)) (k : Str) (d : D) : List (Str × D) := if es.any (fun e => e.1 = k) then es.map (fun e => if e.1 = k then (e.1, d) else e) else es ++ [(k, d)]
theorem DKs.any {bad : List Addr} {k : Str} : ∀ {kvs : List (Str × Value)} {es : List (Str × D)}, DKs c.prog c.w s bad kvs es → kvs.any (fun e => decide (e.1 = k)) = es.any (fun e => decide (e.1 = k))
  | _, _, .nil => rfl
  | _, _, .cons _ r => by rw [List.any_cons, List.any_cons, DKs.any r]
theorem DKs.map {bad : List Addr} {k : Str} {v : Value} {d : D} (x : c.DV s bad v d) : ∀ {kvs : List (Str × Value)} {es : List (Str × D)}, DKs c.prog c.w s bad kvs es → DKs c.prog c.w s bad (kvs.map fun e => if e.1 = k then (e.1, v) else e) (es.map fun e => if e.1 = k then (e.1, d) else e)
  | _, _, .nil => .nil
  | _, _, .cons (k := k') y r => by
    rw [List.map_cons, List.map_cons]
    by_cases h : k' = k
    · simp only [h, if_true]; exact .cons x (DKs.map x r)
    · simp only [h, if_false]; exact .cons y (DKs.map x r)
theorem DKs.append {bad : List Addr} : ∀ {kvs ms : List (Str × Value)} {es fs : List (Str × D)}, DKs c.prog c.w s bad kvs es → DKs c.prog c.w s bad ms fs → DKs c.prog c.w s bad (kvs ++ ms) (es ++ fs)
  | _, _, _, _, .nil, q => q
  | _, _, _, _, .cons y r, q => .cons y (DKs.append r q)
theorem DKs.put {bad : List Addr} {kvs : List (Str × Value)} {es : List (Str × D)} {k : Str} {v : Value} {d : D} (r : DKs c.prog c.w s bad kvs es) (x : c.DV s bad v d) : DKs c.prog c.w s bad (stored kvs k v) (putK es k d) := by
  unfold stored putK
  rw [r.any (k := k)]
  split
  · exact r.map x
  · exact r.append (.cons x .nil)
theorem DKs.valueAt {bad : List Addr} {k : Str} {d : D} {kvs : List (Str × Value)} {es : List (Str × D)} (r : DKs c.prog c.w s bad kvs es) (h : es.lookup k = some d) : ∃ v, valueAt kvs k = some v ∧ c.DV s bad v d := by
  induction kvs generalizing es with
  | nil => (first | obtain ⟨_, rfl⟩ := DV.iX r | obtain ⟨_, rfl⟩ := DV.sX r | obtain rfl := DV.nX r | obtain rfl := DV.bX r | obtain rfl := DV.vX r | obtain rfl := DVs.zX r | cases r); cases h
  | cons p r' ih =>
    cases r with
    | @cons k' v _ d' es' x q =>
      unfold PySem.valueAt at ih ⊢
      rw [List.find?_cons]
      by_cases hk : k' = k
      · subst hk
        rw [List.lookup_cons, beq_self_eq_true] at h
        cases h
        exact ⟨v, by simp, x⟩
      · have e1 : (k == k') = false := by simpa using fun q => hk q.symm
        rw [List.lookup_cons, e1] at h
        simp only [hk, decide_false]
        exact ih q h
theorem DKs.valueAt_none {bad : List Addr} {k : Str} {kvs : List (Str × Value)} {es : List (Str × D)} (r : DKs c.prog c.w s bad kvs es) (h : es.lookup k = none) : PySem.valueAt kvs k = none := by
  induction kvs generalizing es with
  | nil => rfl
  | cons p r' ih =>
    cases r with
    | @cons k' v _ d' es' x q =>
      unfold PySem.valueAt at ih ⊢
      rw [List.find?_cons]
      by_cases hk : k' = k
      · subst hk
        rw [List.lookup_cons, beq_self_eq_true] at h
        cases h
      · have e1 : (k == k') = false := by simpa using fun q => hk q.symm
        rw [List.lookup_cons, e1] at h
        simp only [hk, decide_false]
        exact ih q h

/-- dicts and what stands for them -/
inductive Dicts (σ : Sig) : D → List (Str × D) → Prop
  | dct {es : List (Str × D)} : Dicts σ (.dct es) es
  | ref {a : Addr} {es : List (Str × D)} {f : Ob → Sig} : Hole a (.dict es) σ f → Dicts σ (.val (.ref a)) es
theorem Dicts.at (S : c.St X σ s) {d : D} {es : List (Str × D)} (h : Dicts σ d es) {v : Value} (r : c.DV s (X ++ adrs σ) v d) : ∃ a kvs, v = .ref a ∧ (a == sysModules) = false ∧ s.heap.DictOf (strKind c.prog c.w) a kvs ∧ DKs c.prog c.w s (X ++ adrs σ) kvs es := by
  cases h with
  | dct => cases r with | dct hm e _ q => exact ⟨_, _, rfl, hm, e, q⟩
  | ref H => (first | obtain ⟨_, rfl⟩ := DV.iX r | obtain ⟨_, rfl⟩ := DV.sX r | obtain rfl := DV.nX r | obtain rfl := DV.bX r | obtain rfl := DV.vX r | obtain rfl := DVs.zX r | cases r); obtain ⟨hm, kvs, e, q⟩ := H.hold S; exact ⟨_, kvs, rfl, hm, e, q⟩
theorem is_str {k : Str} {v : Value} {bad : List Addr} (r : c.DV s bad v (.str k)) : (strKind c.prog c.w).is k v = true := by
  (first | obtain ⟨_, rfl⟩ := DV.iX r | obtain ⟨_, rfl⟩ := DV.sX r | obtain rfl := DV.nX r | obtain rfl := DV.bX r | obtain rfl := DV.vX r | obtain rfl := DVs.zX r | cases r); exact strKind_is ..
theorem get_d {d₁ : D} {es : List (Str × D)} {k : Str} {d : D} {Q : D → Sig → Prop} (h₁ : Dicts σ d₁ es) (hk : es.lookup k = some d) (h : Q d σ) : W2 c c.DV getItem d₁ (.str k) σ Q := fun X s _ _ S r₁ r₂ => by
  obtain ⟨a, kvs, rfl, hm, e, q⟩ := h₁.at S r₁
  obtain ⟨v, hv, rv⟩ := q.valueAt hk
  exact wpAny_getItem_of (is_str r₂) e.mapOf hv (post_tk S h (Nat.le_succ _) (rv.grow (Step.grow (.tk (Nat.le_succ _)) X)))
theorem sub_d {value slice : Expr} {d₁ : D} {es : List (Str × D)} {k : Str} {d : D} {Q : D → Sig → Prop} (hs : plainSub slice) (h₁ : Dicts σ d₁ es) (hk : es.lookup k = some d) (h : Q d σ) : W2 c c.DV (subscriptTail value slice) d₁ (.str k) σ Q := fun X s v₁ v₂ S r₁ r₂ => by
  obtain ⟨a, kvs, rfl, hm, e, q⟩ := h₁.at S r₁
  exact tail_any e.typeIs slot_dict_getitem.lookup (get_d h₁ hk h X s _ v₂ S r₁ r₂) (hs _ _)
theorem in_d {d₁ : D} {es : List (Str × D)} {k : Str} {Q : D → Sig → Prop} (h₁ : Dicts σ d₁ es) (h : Q (.bool (es.lookup k).isSome) σ) : W2 c c.DV (compareOp .In) (.str k) d₁ σ Q := fun X s v₁ v₂ S r₁ r₂ => by
  obtain ⟨a, kvs, rfl, hm, e, q⟩ := h₁.at S r₂
  refine wpAny_in_of (is_str r₁) hm e.mapOf ?_
  have : (PySem.valueAt kvs k).isSome = (es.lookup k).isSome := by
    cases hl : es.lookup k with
    | none => rw [q.valueAt_none hl]; rfl
    | some d => obtain ⟨v, hv, _⟩ := q.valueAt hl; rw [hv]; rfl
  rw [this]
  exact post_tk S h (Nat.le_succ _) (.bool _)
theorem set_d {f : Ob → Sig} {es : List (Str × D)} {k : Str} {d : D} {Q : Unit → Sig → Prop} (H : Hole a (.dict es) σ f) (hz : es.length ≤ sizeLine) (h : Q () (f (.dict (putK es k d)))) : W3 c eqR (fun ov iv v => setItem ov iv v) (.val (.ref a)) (.str k) d σ Q := fun X s v₁ v₂ v₃ S r₁ r₂ r₃ => by
  (first | obtain ⟨_, rfl⟩ := DV.iX r₁ | obtain ⟨_, rfl⟩ := DV.sX r₁ | obtain rfl := DV.nX r₁ | obtain rfl := DV.bX r₁ | obtain rfl := DV.vX r₁ | obtain rfl := DVs.zX r₁ | cases r₁)
  obtain ⟨hm, kvs, e, q⟩ := H.hold S
  refine wpAny_setItem_pairs (hsz := by rw [q.length]; exact hz) (is_str r₂) e fun h' e' hs' => ?_
  have hk : ∀ b o, b ≠ a → s.heap.get? b = some o → h'.get? b = some o := fun b o hb e => (hs'.2 b hb).trans e
  have st : Step σ (f (.dict (putK es k d))) s { s with heap := h', toks := s.toks + 1 } := .set H rfl hk (Nat.le_succ _)
  have g := st.grow X
  rw [H.adrs_eq] at g
  exact ⟨(), _, h, rfl, S.set H hk (Nat.le_succ _) ⟨hm, _, e', (q.grow g).put (r₃.grow g)⟩, st⟩
/-- lists are turned -/
theorem set_l {f : Ob → Sig} {ds : List D} {k : Int} {d : D} {Q : Unit → Sig → Prop} (H : Hole a (.list ds) σ f) (h0 : 0 ≤ k) (hk : k < 2 ^ 63) (hl : k < ds.length) (h : Q () (f (.list (ds.set k.toNat d)))) : W3 c eqR (fun ov iv v => setItem ov iv v) (.val (.ref a)) (.int k) d σ Q := fun X s v₁ v₂ v₃ S r₁ r₂ r₃ => by
  (first | obtain ⟨_, rfl⟩ := DV.iX r₁ | obtain ⟨_, rfl⟩ := DV.sX r₁ | obtain rfl := DV.nX r₁ | obtain rfl := DV.bX r₁ | obtain rfl := DV.vX r₁ | obtain rfl := DVs.zX r₁ | cases r₁); (first | obtain ⟨_, rfl⟩ := DV.iX r₂ | obtain ⟨_, rfl⟩ := DV.sX r₂ | obtain rfl := DV.nX r₂ | obtain rfl := DV.bX r₂ | obtain rfl := DV.vX r₂ | obtain rfl := DVs.zX r₂ | cases r₂)
  obtain ⟨vs, n, e, q⟩ := H.hold S
  refine ki_setAt (n := n) e h0 hk (by rw [List.size_toArray, q.length]; exact hl) ?_
  have st : Step σ (f (.list (ds.set k.toNat d))) s { s with heap := s.heap.update a (Obj.mapSeq (·.setIfInBounds k.toNat v₃)) } := .set H rfl (fun b o hb e => (Heap.get?_update_other _ _ (Ne.symm hb)).trans e) (Nat.le_refl _)
  have g := st.grow X
  rw [H.adrs_eq] at g
  have hu := IsL.update e (fun xs => xs.setIfInBounds k.toNat v₃)
  obtain ⟨n', hu⟩ : ∃ n', (s.heap.update a (Obj.mapSeq (·.setIfInBounds k.toNat v₃))).get? a = some (lstObj (vs.set k.toNat v₃) n') := by
    rw [show vs.toArray.setIfInBounds k.toNat v₃ = (vs.set k.toNat v₃).toArray by simp] at hu
    exact ⟨_, hu⟩
  exact ⟨(), _, h, rfl, S.set H (fun b o hb e => (Heap.get?_update_other _ _ (Ne.symm hb)).trans e) (Nat.le_refl _) ⟨vs.set k.toNat v₃, n', hu, (q.grow g).set (r₃.grow g)⟩, st⟩
theorem E_Dict_empty {pos : Pos} {Q : D → Sig → Prop} (h : ∀ a, Q (.val (.ref a)) ((a, .dict []) :: σ)) : WE c (.Dict [] [] pos) env σ Q := fun X s S => by
  refine wpAny_Dict_empty ⟨.val _, _, h s.heap.objs.size, .val _, ?_, Step.put⟩
  refine S.put ⟨?_, [], Heap.DictOf.new _, .nil⟩
  obtain ⟨b₀, o, hle, e⟩ := S.mods
  have := Nat.lt_of_le_of_lt hle (Heap.lt_size (S.keep _ _ e))
  exact beq_eq_false_iff_ne.mpr (Nat.ne_of_gt this)
end
end Mine

namespace Mine
open PySem PySem.W PySem.Calls PyProof.Rows

section
variable {c : Cx} {σ τ ρ : Sig} {X X' : List Addr} {s s₁ s₂ s' : Shared} {it a : Addr} {target : Expr} {env : Env}

/-- new objects are laid -/
theorem St.adds (S : c.St X σ s) (hk : ∀ b o, s.heap.get? b = some o → s'.heap.get? b = some o) (ht : s.toks ≤ s'.toks) (hn : (adrs ρ).Nodup) (hf : ∀ a ∈ adrs ρ, s.heap.get? a = none)
    (hx : Grow s (X ++ adrs σ) s' (X ++ adrs (ρ ++ σ)) → ∀ p ∈ ρ, Holds c.prog c.w s' (X ++ adrs (ρ ++ σ)) p.1 p.2) : c.St X (ρ ++ σ) s' ∧ Grow s (X ++ adrs σ) s' (X ++ adrs (ρ ++ σ)) := by
  have e : adrs (ρ ++ σ) = adrs ρ ++ adrs σ := List.map_append ..
  have nf : ∀ b o, s.heap.get? b = some o → b ∉ adrs ρ := fun b o q hm => by rw [hf b hm] at q; cases q
  have g : Grow s (X ++ adrs σ) s' (X ++ adrs (ρ ++ σ)) := by
    refine ⟨fun b o _ q => hk b o q, fun b o q hb hm => ?_, ht⟩
    rw [e] at hm
    rcases List.mem_append.mp hm with h | h
    · exact hb (List.mem_append.mpr (.inl h))
    · rcases List.mem_append.mp h with h | h
      · exact nf b o q h
      · exact hb (List.mem_append.mpr (.inr h))
  refine ⟨⟨fun b o q => hk b o (S.keep b o q), ?_, ?_, fun b hb => (S.xold b hb).imp fun o q => hk b o q, ?_, ?_, Nat.lt_of_lt_of_le S.toks ht, S.mods⟩, g⟩
  · rw [e, List.nodup_append]
    exact ⟨hn, S.nodup, fun a ha b hb q => by obtain ⟨o, ho⟩ := S.has hb; exact nf b o ho (q ▸ ha)⟩
  · intro b hb hX
    rw [e] at hb
    rcases List.mem_append.mp hb with h | h
    · obtain ⟨o, ho⟩ := S.xold b hX; exact nf b o ho h
    · exact S.apart b h hX
  · intro b hb
    rw [e] at hb
    rcases List.mem_append.mp hb with h | h
    · cases q : c.B.get? b with
      | none => rfl
      | some o => exact absurd h (nf b o (S.keep b o q))
    · exact S.fresh b h
  · intro p hp
    rcases List.mem_append.mp hp with h | h
    · exact hx g p h
    · exact (S.hold p h).grow g fun o q => hk _ o q
theorem Step.adds (hr : s' = { s with heap := s'.heap, toks := s'.toks }) (hk : ∀ b o, s.heap.get? b = some o → s'.heap.get? b = some o) (ht : s.toks ≤ s'.toks) (hf : ∀ a ∈ adrs ρ, s.heap.get? a = none) : Step σ (ρ ++ σ) s s' :=
  ⟨hr, fun b o _ q => hk b o q, fun a ha => by
    rw [show adrs (ρ ++ σ) = adrs ρ ++ adrs σ from List.map_append ..] at ha
    exact (List.mem_append.mp ha).symm.imp id (hf a), ht⟩

/-- the first n objects are let go -/
inductive Drops : Nat → Sig → Sig → Prop
  | done {σ : Sig} : Drops 0 σ σ
  | more {n : Nat} {p : Addr × Ob} {σ τ : Sig} : Drops n σ τ → Drops (n + 1) (p :: σ) τ
theorem Drops.sub {n : Nat} (h : Drops n σ τ) : ∀ a ∈ adrs τ, a ∈ adrs σ := by
  induction h with
  | done => exact fun _ h => h
  | more _ ih => exact fun a ha => .tail _ (ih a ha)
theorem St.drop1 {p : Addr × Ob} (S : c.St X (p :: σ) s) : c.St X σ s := by
  refine ⟨S.keep, (List.nodup_cons.mp S.nodup).2, fun a ha => S.apart a (.tail _ ha), S.xold, fun a ha => S.fresh a (.tail _ ha), fun q hq => (S.hold q (.tail _ hq)).grow (Grow.refl fun b hb => ?_) fun _ e => e, S.toks, S.mods⟩
  rcases List.mem_append.mp hb with h | h
  · exact List.mem_append.mpr (.inl h)
  · exact List.mem_append.mpr (.inr (.tail _ h))
theorem Drops.st {n : Nat} (h : Drops n σ τ) (S : c.St X σ s) : c.St X τ s := by
  induction h with
  | done => exact S
  | more _ ih => exact ih S.drop1
theorem Drops.grow {n : Nat} (h : Drops n σ τ) : Grow s (X ++ adrs σ) s (X ++ adrs τ) := Grow.refl fun b hb => by
  rcases List.mem_append.mp hb with q | q
  · exact List.mem_append.mpr (.inl q)
  · exact List.mem_append.mpr (.inr (h.sub b q))
theorem Drops.step {n : Nat} (h : Drops n σ τ) : Step σ τ s s := ⟨rfl, fun _ _ _ e => e, fun a ha => .inl (h.sub a ha), Nat.le_refl _⟩

inductive Ret : Fl → D → Prop
  | next : Ret .next .none
  | ret (d : D) : Ret (.ret d) d

noncomputable abbrev fnObj (name qn : Str) (params : Arguments) (body : List Stmt) (scope : Scope) (dv kd pm cd : Value) : Obj :=
  { cls := .type "function", data := .func { name := name, qualname := qn, params := params, body := .stmts body, scope := scope, globals := mainGlobals, closure := [], defaults := dv, kwdefaults := kd, pyModule := pm, code := cd, builtins := builtinsNs } }
noncomputable abbrev fnData (name qn : Str) (params : Arguments) (body : List Stmt) (scope : Scope) (dv kd pm cd : Value) : FuncData :=
  { name := name, qualname := qn, params := params, body := .stmts body, scope := scope, globals := mainGlobals, closure := [], defaults := dv, kwdefaults := kd, pyModule := pm, code := cd, builtins := builtinsNs }

theorem with_toks' {α : Type} {A : Around} {t : Sem α} {P : α → Shared → Prop} (h : wpAny c.M A t (fun v s' => s.toks ≤ s'.toks → P v s') noE s) : wpAny c.M A t P noE s :=
  wpAny_with_toks (Nat.le_refl _) (wpAny_mono h (fun _ _ p => p) fun _ _ e => e.elim)
/-- the binding of the arguments -/
noncomputable def WB (c : Cx) (fd : FuncData) (kw : List (Str × Value)) (ds : List D) (σ : Sig) (ps : List Str) (ds' : List D) : Prop :=
  ∀ X s vals, c.St X σ s → c.DVs s (X ++ adrs σ) vals ds → wpAny c.M c.A.in1 (bindArgs fd ⟨vals, kw⟩) (fun binds s₁ => ∃ vals', binds = ps.zip vals' ∧ c.St X σ s₁ ∧ c.DVs s₁ (X ++ adrs σ) vals' ds' ∧ Step σ σ s s₁) noE s
theorem WB.pure {fd : FuncData} {ds : List D} {ps : List Str} (h : ∀ vals : List Value, vals.length = ds.length → bindArgs fd ⟨vals, []⟩ = pure (ps.zip vals)) : WB c fd [] ds σ ps ds := fun X s vals S r => by
  rw [h vals r.length]
  exact wpAny_pure ⟨vals, rfl, S, r, .refl ..⟩

theorem zip_OV {bad : List Addr} {n : Str} : ∀ {ps : List Str} {vs : List Value} {ds : List D}, c.DVs s bad vs ds → OV c.prog c.w s bad ((ps.zip vs).lookup n) ((ps.zip ds).lookup n)
  | [], _, _, _ => .none
  | p :: ps, _, _, .nil => .none
  | p :: ps, _, _, .cons x r => by
    rw [List.zip_cons_cons, List.zip_cons_cons, List.lookup_cons, List.lookup_cons]
    cases n == p with
    | true => exact .some x
    | false => exact zip_OV r
theorem zip_none {α : Type} {n : Str} : ∀ {ps : List Str} {vs : List α}, n ∉ ps → (ps.zip vs).lookup n = none
  | [], _, _ => rfl
  | _ :: _, [], _ => rfl
  | p :: ps, v :: vs, h => by
    rw [List.zip_cons_cons, List.lookup_cons, beq_eq_false_iff_ne.mpr (show n ≠ p from fun q => by subst q; exact h (.head _))]
    exact zip_none fun q => h (.tail _ q)
theorem bindL_zip {k : Str → Option NameKind} {n : Str} (hk : k n = some .local) : ∀ {ps : List Str} {vs : List Value} {m : Str → Option Value}, ps.Nodup → bindL k (ps.zip vs) m n = ((ps.zip vs).lookup n).or (m n)
  | [], _, _, _ => rfl
  | _ :: _, [], _, _ => rfl
  | p :: ps, v :: vs, m, h => by
    rw [List.zip_cons_cons, List.lookup_cons]
    have ⟨h1, h2⟩ := List.nodup_cons.mp h
    show bindL k (ps.zip vs) _ n = _
    rw [bindL_zip hk h2]
    by_cases q : n = p
    · subst q
      rw [zip_none h1, beq_self_eq_true]
      simp [hk]
    · rw [beq_eq_false_iff_ne.mpr q]
      by_cases kp : k p = some .local
      · simp [kp, q]
      · simp [kp]
theorem bindC_zip {k : Str → Option NameKind} {n : Str} (hk : k n ≠ some .local) : ∀ {ps : List Str} {vs : List Value} {m : Str → Option Value}, ps.Nodup → bindC k (ps.zip vs) m n = ((ps.zip vs).lookup n).or (m n)
  | [], _, _, _ => rfl
  | _ :: _, [], _, _ => rfl
  | p :: ps, v :: vs, m, h => by
    rw [List.zip_cons_cons, List.lookup_cons]
    have ⟨h1, h2⟩ := List.nodup_cons.mp h
    show bindC k (ps.zip vs) _ n = _
    rw [bindC_zip hk h2]
    by_cases q : n = p
    · subst q
      rw [zip_none h1, beq_self_eq_true]
      simp [hk]
    · rw [beq_eq_false_iff_ne.mpr q]
      by_cases kp : k p = some .local
      · simp [kp]
      · simp [kp, q]
theorem cells_has {x : Str} : ∀ {names : List (Str × NameKind)} {n : Nat} {acc : List (Str × Addr)}, (names.lookup x = some .cell ∨ (acc.lookup x).isSome = true) → ((cellsFrom n names acc).lookup x).isSome = true
  | [], _, _, h => by rcases h with h | h; cases h; exact h
  | (y, k) :: r, n, acc, h => by
    unfold cellsFrom
    rw [List.lookup_cons] at h
    by_cases q : x = y
    · subst q
      rw [beq_self_eq_true] at h
      split
      · exact cells_has (.inr (by rw [List.lookup_cons, beq_self_eq_true]; rfl))
      · rename_i hk
        rcases h with h | h
        · cases h; exact absurd rfl hk
        · exact cells_has (.inr h)
    · rw [beq_eq_false_iff_ne.mpr q] at h
      split
      · refine cells_has (h.imp id fun h => ?_)
        rw [List.lookup_cons, beq_eq_false_iff_ne.mpr q]; exact h
      · exact cells_has h
theorem cells_kind {x : Str} {a : Addr} : ∀ {names : List (Str × NameKind)} {n : Nat} {acc : List (Str × Addr)}, (x, a) ∈ cellsFrom n names acc → (x, .cell) ∈ names ∨ (x, a) ∈ acc
  | [], _, _, h => .inr h
  | (y, k) :: r, n, acc, h => by
    unfold cellsFrom at h
    split at h
    · rename_i hk
      rcases cells_kind h with h | h
      · exact .inl (.tail _ h)
      · rcases List.mem_cons.mp h with e | h
        · cases e; rw [beq_iff_eq.mp hk]; exact .inl (.head _)
        · exact .inr h
    · rcases cells_kind h with h | h
      · exact .inl (.tail _ h)
      · exact .inr h

structure FnOk (scope : Scope) (ps : List Str) (ns : List Str) : Prop where
  co : scope.isCoroutine = false
  gen : scope.isGenerator = false
  kind : scope.kind = .function
  hps : ∀ x ∈ ps, scope.names.lookup x = some .local ∨ scope.names.lookup x = some .cell
  psn : ps.Nodup
  hns : ∀ x ∈ ns, scope.names.lookup x = some .local
  nsn : ns.Nodup
  cells : ∀ x, (x, NameKind.cell) ∈ scope.names → scope.names.lookup x = some .cell
  celln : ((cellsFrom 0 scope.names []).map (·.1)).Nodup

noncomputable def fnOk (scope : Scope) (ps ns : List Str) : Bool :=
  !scope.isCoroutine && !scope.isGenerator && scope.kind == .function && ps.all (fun x => scope.names.lookup x == some .local || scope.names.lookup x == some .cell) && decide ps.Nodup && ns.all (fun x => scope.names.lookup x == some .local) && decide ns.Nodup &&
  scope.names.all (fun p => p.2 != .cell || scope.names.lookup p.1 == some .cell) && decide ((cellsFrom 0 scope.names []).map (·.1)).Nodup
theorem fnOk_of {scope : Scope} {ps ns : List Str} (h : fnOk scope ps ns = true) : FnOk scope ps ns := by
  unfold fnOk at h
  simp only [Bool.and_eq_true, Bool.not_eq_true', decide_eq_true_eq, List.all_eq_true, Bool.or_eq_true, beq_iff_eq, bne_iff_ne, ne_eq] at h
  obtain ⟨⟨⟨⟨⟨⟨⟨⟨h1, h2⟩, h3⟩, h4⟩, h5⟩, h6⟩, h7⟩, h8⟩, h9⟩ := h
  exact ⟨h1, h2, h3, h4, h5, h6, h7, fun x hx => (h8 _ hx).resolve_left (fun q => q rfl), h9⟩
/-- the block of a call -/
noncomputable abbrev fnEnv (qn : Str) (scope : Scope) (L a : Addr) (cd : Value) : Env :=
  { scope := scope, locals := L, globals := mainGlobals, cells := cellsFrom (L + 1) scope.names [], qual := qn ++ ".<locals>.", func := some a, code := cd, frame := some L, builtins := builtinsNs }
noncomputable abbrev fnEnv0 (qn : Str) (scope : Scope) (L a : Addr) (cd : Value) : Env :=
  { scope := scope, locals := L, globals := mainGlobals, cells := [], qual := qn ++ ".<locals>.", func := some a, code := cd, frame := some L, builtins := builtinsNs }
/-- the block of a comprehension -/
noncomputable abbrev cmpEnv (scope : Scope) (cl : List (Str × Addr)) (C : Addr) (env : Env) : Env :=
  { scope := relabel scope env, locals := C, globals := env.globals, cells := cl, qual := env.qual, func := none, code := env.code, frame := env.frame, builtins := env.builtins }
/-- the frame of a call -/
noncomputable abbrev frameOf (scope : Scope) (L : Addr) (ps ns : List Str) (ds : List D) : Sig :=
  (L, .ns ns (ns.map fun n => (ps.zip ds).lookup n)) :: (cellsFrom (L + 1) scope.names []).map fun x => (x.2, .cell ((ps.zip ds).lookup x.1))

/-- a call, as code -/
noncomputable def WC (c : Cx) (f : Value) (kw : List (Str × Value)) (ds : List D) (σ : Sig) (Q : D → Sig → Prop) : Prop :=
  ∀ X s vs, c.St X σ s → c.DVs s (X ++ adrs σ) vs ds → codeAny c.M c.A (.call f ⟨vs, kw⟩) (fun r s' => match r with | .ok (.ret v) => c.Post X σ s c.DV Q v s' | .ok _ => False | .error _ => False) s
theorem WC.call {v : Value} {kw : List (Str × Value)} {ds : List D} {Q : D → Sig → Prop} (h : WC c v kw ds σ Q) : WL c c.DV (fun vs => call v vs kw) ds σ Q := fun X s vs S r =>
  wpAny_call (codeAny_mono (h X s vs S r) fun r s' hr => by
    rcases r with e | (v | _ | _ | _) <;> exact hr)

theorem call_F {name qn : Str} {params : Arguments} {body : List Stmt} {scope : Scope} {dv kd pm cd : Value} {ps ns : List Str} {kw : List (Str × Value)} {ds ds' : List D} {Q : D → Sig → Prop}
    (ho : c.B.get? a = some (fnObj name qn params body scope dv kd pm cd)) (ok : FnOk scope ps ns) (hroom : c.A.depth < recursionLimit) (hlim : c.B.NoLimit) (hcode : c.B.CodeRec cd qn)
    (hbind : WB c (fnData name qn params body scope dv kd pm cd) kw ds σ ps ds')
    (n : Nat) (h : ∀ L, WX (c.deeper (envOfC qn scope L a cd)) body (envOfC qn scope L a cd) (frameOf scope L ps ns ds' ++ σ) fun fl τ' => ∃ d τ, Ret fl d ∧ Drops n τ' τ ∧ Q d τ) :
    WC c (.ref a) kw ds σ Q := fun X s vals S r => by
  refine (codeAny_call_function hroom (S.keep _ _ ho) (fd := fnData name qn params body scope dv kd pm cd) rfl ok.co ok.gen rfl (hcode.keeps S.keep) ?_)
  refine wpAny_mono (hbind X s vals S r) (fun binds s₁ hb => ?_) fun _ _ e => e.elim
  obtain ⟨vals', rfl, S₁, r₁, x₁⟩ := hb
  refine wpAny_mono (E := noE) (with_toks' (wpAny_newFunctionEnv_cells ok.kind (fun x hx => ?_) fun env he s₂ I htk => ⟨hlim.keeps fun b o e => I.toInCall.keep b o (S₁.keep b o e), ?_⟩)) (fun _ _ p => p) fun _ _ e => e.elim
  · rcases ok.hps x.1 (List.of_mem_zip hx).1 with h | h
    · exact .inl h
    · exact .inr ⟨h, cells_has (.inl h)⟩
  obtain rfl : env = envOfC qn scope s₁.heap.objs.size a cd := he
  generalize hL : s₁.heap.objs.size = L at I ⊢
  refine codeAny_func ?_
  obtain ⟨h₂, tk, e2⟩ := I.toInCall.same
  have htk' : s₁.toks ≤ tk := by rw [e2] at htk; exact htk
  have hcn : ((cellsFrom (L + 1) scope.names []).map (·.1)).Nodup := cellsFrom_names scope.names 0 (L + 1) [] [] rfl ▸ ok.celln
  have fresh : ∀ b ∈ adrs (frameOf scope L ps ns ds'), s₁.heap.get? b = none := by
    intro b hb
    rcases List.mem_cons.mp hb with rfl | hb
    · exact hL ▸ get_size
    · obtain ⟨p, hp, rfl⟩ := List.mem_map.mp hb
      obtain ⟨q, hq, rfl⟩ := List.mem_map.mp hp
      have := I.above q.1 q.2 hq
      exact Heap.get?_none_of_le (hL ▸ Nat.le_of_lt this)
  obtain ⟨S₂, g₂⟩ := S₁.adds (s' := s₂) (ρ := frameOf scope L ps ns ds') I.toInCall.keep (by rw [e2]; exact htk') (by
      refine List.nodup_cons.mpr ⟨fun hm => ?_, ?_⟩
      · obtain ⟨p, hp, e⟩ := List.mem_map.mp hm
        obtain ⟨q, hq, rfl⟩ := List.mem_map.mp hp
        have := I.above q.1 q.2 hq
        rw [show q.2 = L from e] at this
        exact Nat.lt_irrefl _ this
      · rw [List.map_map]
        exact List.pairwise_map.mpr I.apart) fresh fun g p hp => by
      have r₂ := r₁.grow g
      rcases List.mem_cons.mp hp with rfl | hp
      · refine ⟨_, I.toInCall.ns, ok.nsn, List.length_map .., fun i y d e1 e2 => ?_⟩
        rw [List.getElem?_map, e1] at e2
        cases e2
        have hy : (envOfC qn scope L a cd).kindOf y = some .local := ok.hns y (List.mem_of_getElem? e1)
        rw [bindL_zip hy ok.psn]
        simp only [Option.or_none]
        exact zip_OV r₂
      · obtain ⟨q, hq, rfl⟩ := List.mem_map.mp hp
        have hl := lookup_of_mem_nodup hcn (n := q.1) (c := q.2) hq
        obtain ⟨o, ho, hd⟩ := I.cell q.1 q.2 hl
        have hy : (envOfC qn scope L a cd).kindOf q.1 ≠ some .local := by
          rcases cells_kind hq with h | h
          · show scope.names.lookup q.1 ≠ _
            rw [ok.cells _ h]; decide
          · cases h
        refine ⟨_, o, ho, hd, ?_⟩
        rw [bindC_zip hy ok.psn]
        simp only [Option.or_none]
        exact zip_OV r₂
  have st : Step σ (frameOf scope L ps ns ds' ++ σ) s₁ s₂ := .adds (by rw [e2]) I.toInCall.keep (by rw [e2]; exact htk') fresh
  refine wpAny_mono ((h L) X s₂ S₂) (fun f s₃ h₃ => ?_) fun _ _ e => e.elim
  obtain ⟨fl, τ', ⟨d, τ, hr, hd, hq⟩, rr, S₃, x₃⟩ := h₃
  cases hr with
  | next =>
    cases rr
    exact ⟨_, τ, hq, .none, hd.st S₃, x₁.trans (st.trans (x₃.trans hd.step))⟩
  | ret d =>
    cases rr with
    | ret r => exact ⟨d, τ, hq, r.grow hd.grow, hd.st S₃, x₁.trans (st.trans (x₃.trans hd.step))⟩

/-- a call whose block has no cells -/
theorem call_F0 {name qn : Str} {params : Arguments} {body : List Stmt} {scope : Scope} {dv kd pm cd : Value} {ps ns : List Str} {kw : List (Str × Value)} {ds ds' : List D} {Q : D → Sig → Prop}
    (ho : c.B.get? a = some (fnObj name qn params body scope dv kd pm cd)) (hroom : c.A.depth < recursionLimit) (hlim : c.B.NoLimit) (hcode : c.B.CodeRec cd qn)
    (vs : List (Option D)) (ok : fnOk scope ps ns = true)
    (hbind : WB c (fnData name qn params body scope dv kd pm cd) kw ds σ ps ds')
    (hvs : (ns.map fun n => (ps.zip ds').lookup n) = vs) (hc : scope.names.all (fun p => p.2 != .cell) = true)
    (h : ∀ L, WX (c.deeper (fnEnv0 qn scope L a cd)) body (fnEnv0 qn scope L a cd) ((L, .ns ns vs) :: σ) fun fl τ' => ∃ d τ, Ret fl d ∧ Drops 1 τ' τ ∧ Q d τ) :
    WC c (.ref a) kw ds σ Q := by
  have e : ∀ L, cellsFrom (L + 1) scope.names [] = [] := fun L => by
    cases q : cellsFrom (L + 1) scope.names [] with
    | nil => rfl
    | cons p r =>
      exfalso
      rcases cells_kind (x := p.1) (a := p.2) (q ▸ List.mem_cons_self ..) with h | h
      · have := List.all_eq_true.mp hc _ h
        exact absurd (show (NameKind.cell != NameKind.cell) = true from this) (by decide)
      · cases h
  refine call_F ho (fnOk_of ok) hroom hlim hcode hbind 1 fun L => ?_
  have := h L
  unfold frameOf envOfC
  rw [hvs, e L]
  exact this
/-- a call whose block has cells -/
theorem call_FC {name qn : Str} {params : Arguments} {body : List Stmt} {scope : Scope} {dv kd pm cd : Value} {ps ns : List Str} {kw : List (Str × Value)} {ds ds' : List D} {Q : D → Sig → Prop}
    (ho : c.B.get? a = some (fnObj name qn params body scope dv kd pm cd)) (hroom : c.A.depth < recursionLimit) (hlim : c.B.NoLimit) (hcode : c.B.CodeRec cd qn)
    (vs : List (Option D)) (cs : Addr → Sig) (ok : fnOk scope ps ns = true)
    (hbind : WB c (fnData name qn params body scope dv kd pm cd) kw ds σ ps ds')
    (hvs : (ns.map fun n => (ps.zip ds').lookup n) = vs) (hcs : ∀ L, ((cellsFrom (L + 1) scope.names []).map fun x => (x.2, Ob.cell ((ps.zip ds').lookup x.1))) ++ σ = cs L)
    (n : Nat) (h : ∀ L, WX (c.deeper (fnEnv qn scope L a cd)) body (fnEnv qn scope L a cd) ((L, .ns ns vs) :: cs L) fun fl τ' => ∃ d τ, Ret fl d ∧ Drops n τ' τ ∧ Q d τ) :
    WC c (.ref a) kw ds σ Q := by
  refine call_F ho (fnOk_of ok) hroom hlim hcode hbind n fun L => ?_
  have := h L
  unfold frameOf envOfC
  rw [hvs, List.cons_append, hcs L]
  exact this
end
end Mine

namespace Mine
open PySem PySem.W PySem.Calls PyProof.Rows

section
variable {c : Cx} {σ τ ρ : Sig} {X X' : List Addr} {s s₁ s₂ s' : Shared} {it a : Addr} {target : Expr} {env : Env} {f : Ob → Sig}

/-! getting the methods -/
theorem gm_list {name : Str} {id : String} {d : D} {ds : List D} (slot : Slot "list" name id) (ty : typeOf (.builtin id) = pure (.type "method_descriptor")) (h : Seqs σ d ds) : GM c name d σ id := fun X s v pl P S r hp => by
  obtain ⟨l, vs, n, rfl, e, q⟩ := h.at S r
  exact getMethod_builtin ⟨_, e, rfl⟩ PySem.F.plainAttrs_list slot ty (fun a h => by cases h; exact ⟨_, e, rfl⟩) hp
theorem gm_append {d : D} {ds : List D} (h : Seqs σ d ds) : GM c "append" d σ "list.append" := gm_list PySem.F.slot_list_append PySem.F.type_list_append h
theorem gm_pop {d : D} {ds : List D} (h : Seqs σ d ds) : GM c "pop" d σ "list.pop" := gm_list PySem.F.slot_list_pop PySem.F.type_list_pop h
theorem gm_extend {d : D} {ds : List D} (h : Seqs σ d ds) : GM c "extend" d σ "list.extend" := gm_list PySem.F.slot_list_extend PySem.F.type_list_extend h
theorem gm_dict {name : Str} {id : String} {d : D} {es : List (Str × D)} (slot : Slot "dict" name id) (ty : typeOf (.builtin id) = pure (.type "method_descriptor")) (h : Dicts σ d es) : GM c name d σ id := fun X s v pl P S r hp => by
  obtain ⟨l, kvs, rfl, hm, e, q⟩ := h.at S r
  obtain ⟨o, es', ep, ho, hc, hd, _⟩ := e
  exact getMethod_builtin ⟨o, ho, hc.1⟩ PySem.F.plainAttrs_dict slot ty (fun a h => by cases h; exact ⟨o, ho, hc.2.1⟩) hp
theorem gm_str {name : Str} {id : String} {x : Str} (slot : Slot "str" name id) (ty : typeOf (.builtin id) = pure (.type "method_descriptor")) : GM c name (.str x) σ id := fun X s v pl P S r hp => by
  (first | obtain ⟨_, rfl⟩ := DV.iX r | obtain ⟨_, rfl⟩ := DV.sX r | obtain rfl := DV.nX r | obtain rfl := DV.bX r | obtain rfl := DV.vX r | obtain rfl := DVs.zX r | cases r)
  with_reducible exact PySem.GM.of (.str x _) (typeIs_str _ _ _) slot ty PySem.GM.noRef hp
theorem GM.weak {name : Str} {id : String} {x : Str} (h : GM c name (.str x) σ id) : GM c name (.sg x) σ id := fun X s v pl P S r hp => h X s v pl P S r.weak hp

/-! list methods -/
theorem append_m {ds : List D} {d : D} {Q : D → Sig → Prop} (H : Hole a (.list ds) σ f) (hz : ds.length ≤ sizeLine) (h : Q .none (f (.list (ds ++ [d])))) : WL c c.DV (fun vs => call (.builtin "list.append") vs) [.val (.ref a), d] σ Q := fun X s vs S r => by
  obtain ⟨vs₀, n, e, q⟩ := H.hold S
  obtain ⟨_, _, rfl, r₁, r⟩ := DVs.cX r
  obtain ⟨v, _, rfl, r₂, r⟩ := DVs.cX r
  (first | obtain ⟨_, rfl⟩ := DV.iX r | obtain ⟨_, rfl⟩ := DV.sX r | obtain rfl := DV.nX r | obtain rfl := DV.bX r | obtain rfl := DV.vX r | obtain rfl := DVs.zX r | cases r); (first | obtain ⟨_, rfl⟩ := DV.iX r₁ | obtain ⟨_, rfl⟩ := DV.sX r₁ | obtain rfl := DV.nX r₁ | obtain rfl := DV.bX r₁ | obtain rfl := DV.vX r₁ | obtain rfl := DVs.zX r₁ | cases r₁)
  refine wpAny_list_append_plain ⟨n, e⟩ (fun h' hp hs => ?_) (by rw [List.size_toArray, q.length]; exact hz)
  obtain ⟨k', hp⟩ := hp
  have st : Step σ (f (.list (ds ++ [d]))) s { s with heap := h' } := .set H rfl (fun b o hb e => (hs.2 b hb).trans e) (Nat.le_refl _)
  have g := st.grow X
  rw [H.adrs_eq] at g
  exact ⟨.none, _, h, .none, S.set H (fun b o hb e => (hs.2 b hb).trans e) (Nat.le_refl _) ⟨vs₀ ++ [v], k', by simpa using hp, (q.grow g).append (.cons (r₂.grow g) .nil)⟩, st⟩
theorem pop_m {ds : List D} {d : D} {Q : D → Sig → Prop} (H : Hole a (.list (ds ++ [d])) σ f) (hz : ds.length + 1 ≤ sizeLine) (h : Q d (f (.list ds))) : W1 c c.DV (fun v => call (.builtin "list.pop") [v]) (.val (.ref a)) σ Q := fun X s v S r => by
  (first | obtain ⟨_, rfl⟩ := DV.iX r | obtain ⟨_, rfl⟩ := DV.sX r | obtain rfl := DV.nX r | obtain rfl := DV.bX r | obtain rfl := DV.vX r | obtain rfl := DVs.zX r | cases r)
  obtain ⟨vs, n, e, q⟩ := H.hold S
  have hl : vs.length = ds.length + 1 := by rw [q.length, List.length_append]; rfl
  obtain ⟨vs₀, y, rfl⟩ : ∃ vs₀ y, vs = vs₀ ++ [y] := by
    rcases List.eq_nil_or_concat vs with rfl | ⟨l, b, rfl⟩
    · simp at hl
    · exact ⟨l, b, by simp⟩
  have hl0 : vs₀.length = ds.length := by simpa using hl
  have q0 : c.DVs s (X ++ adrs σ) vs₀ ds := by simpa [← hl0] using (q.dropLast)
  have qy : c.DV s (X ++ adrs σ) y d := by
    obtain ⟨v', hv', rv⟩ := q.get (j := ds.length) (d := d) (by simp)
    rw [← hl0] at hv'
    simp at hv'
    exact hv' ▸ rv
  refine call_meets PySem.F.slot_list_pop ⟨_, e, rfl⟩ PySem.F.entry_list_pop (PySem.F.args_list_pop_1 _) (PySem.MeetsSeq.list_pop_last a _ n y (by simp) (by rw [List.size_toArray, hl]; exact hz)) ⟨e, ?_⟩
  have st : Step σ (f (.list ds)) s { s with heap := s.heap.update a (Obj.mapSeq fun xs => xs.eraseIdxIfInBounds ((vs₀ ++ [y]).toArray.size - 1)) } := .set H rfl (fun b o hb e => (Heap.get?_update_other _ _ (Ne.symm hb)).trans e) (Nat.le_refl _)
  have g := st.grow X
  rw [H.adrs_eq] at g
  have hu := IsL.update e (fun xs => xs.eraseIdxIfInBounds ((vs₀ ++ [y]).toArray.size - 1))
  rw [show (vs₀ ++ [y]).toArray.eraseIdxIfInBounds ((vs₀ ++ [y]).toArray.size - 1) = vs₀.toArray by simp [Array.eraseIdxIfInBounds, List.eraseIdx_append_of_length_le]] at hu
  exact ⟨d, _, h, by rw [H.adrs_eq]; exact qy.grow g, S.set H (fun b o hb e => (Heap.get?_update_other _ _ (Ne.symm hb)).trans e) (Nat.le_refl _) ⟨vs₀, _, hu, q0.grow g⟩, st⟩
theorem extend_m {ds es : List D} {d : D} {Q : D → Sig → Prop} (H : Hole a (.list ds) σ f) (h₂ : Seqs σ d es) (hz : ds.length + es.length ≤ 1000000) (h : Q .none (f (.list (ds ++ es)))) : WL c c.DV (fun vs => call (.builtin "list.extend") vs) [.val (.ref a), d] σ Q := fun X s vs S r => by
  obtain ⟨vs₀, n, e, q⟩ := H.hold S
  obtain ⟨_, _, rfl, r₁, r⟩ := DVs.cX r
  obtain ⟨_, _, rfl, r₂, r⟩ := DVs.cX r
  (first | obtain ⟨_, rfl⟩ := DV.iX r | obtain ⟨_, rfl⟩ := DV.sX r | obtain rfl := DV.nX r | obtain rfl := DV.bX r | obtain rfl := DV.vX r | obtain rfl := DVs.zX r | cases r); (first | obtain ⟨_, rfl⟩ := DV.iX r₁ | obtain ⟨_, rfl⟩ := DV.sX r₁ | obtain rfl := DV.nX r₁ | obtain rfl := DV.bX r₁ | obtain rfl := DV.vX r₁ | obtain rfl := DVs.zX r₁ | cases r₁)
  obtain ⟨b, ws, m, rfl, eb, qb⟩ := h₂.at S r₂
  have z1 := q.length
  have z2 := qb.length
  have zl := sizeLine_eq
  refine call_meets PySem.F.slot_list_extend ⟨_, e, rfl⟩ PySem.F.entry_list_extend (PySem.F.args_list_extend_2 _ _) (AutoSeq1.list_extend_list_list_0 a _ n b _ m ?_ (by rw [List.size_toArray]; omega) (by rw [List.size_toArray, List.size_toArray]; omega)) ⟨e, eb, ?_⟩
  · rw [List.size_toArray, List.size_toArray]
    simp only [Bool.and_eq_true, Builtin.List.listTooLong, not_and]
    intro _
    simp
    omega
  have st : Step σ (f (.list (ds ++ es))) s { s with heap := s.heap.update a (Obj.mapSeq fun xs => xs ++ ws.toArray) } := .set H rfl (fun b o hb e => (Heap.get?_update_other _ _ (Ne.symm hb)).trans e) (Nat.le_refl _)
  have g := st.grow X
  rw [H.adrs_eq] at g
  have hu := IsL.update e (fun xs => xs ++ ws.toArray)
  rw [show vs₀.toArray ++ ws.toArray = (vs₀ ++ ws).toArray by simp] at hu
  exact ⟨.none, _, h, .none, S.set H (fun b o hb e => (Heap.get?_update_other _ _ (Ne.symm hb)).trans e) (Nat.le_refl _) ⟨vs₀ ++ ws, _, hu, (q.append qb).grow g⟩, st⟩

/-! sizes and truth -/
theorem len_l {d : D} {ds : List D} {Q : D → Sig → Prop} (h₁ : Seqs σ d ds) (hz : ds.length ≤ 1000000) (h : Q (.int ds.length) σ) : WL c c.DV (fun vs => call (.builtin "len") vs) [d] σ Q := fun X s vs S r => by
  obtain ⟨_, _, rfl, r₁, r⟩ := DVs.cX r
  (first | obtain ⟨_, rfl⟩ := DV.iX r | obtain ⟨_, rfl⟩ := DV.sX r | obtain rfl := DV.nX r | obtain rfl := DV.bX r | obtain rfl := DV.vX r | obtain rfl := DVs.zX r | cases r)
  obtain ⟨b, ws, m, rfl, eb, qb⟩ := h₁.at S r₁
  have z := qb.length
  refine len_list (isList_lst eb) (by rw [List.size_toArray]; omega) ?_
  rw [List.size_toArray, z]
  exact post_tk S h (Nat.le_trans (Nat.le_succ _) (Nat.le_succ _)) (.int ..)
theorem len_s {x : Str} {Q : D → Sig → Prop} (hz : x.length ≤ 1000000) (h : Q (.int x.length) σ) : WL c c.DV (fun vs => call (.builtin "len") vs) [.str x] σ Q := fun X s vs S r => by
  obtain ⟨_, _, rfl, r₁, r⟩ := DVs.cX r
  (first | obtain ⟨_, rfl⟩ := DV.iX r | obtain ⟨_, rfl⟩ := DV.sX r | obtain rfl := DV.nX r | obtain rfl := DV.bX r | obtain rfl := DV.vX r | obtain rfl := DVs.zX r | cases r); (first | obtain ⟨_, rfl⟩ := DV.iX r₁ | obtain ⟨_, rfl⟩ := DV.sX r₁ | obtain rfl := DV.nX r₁ | obtain rfl := DV.bX r₁ | obtain rfl := DV.vX r₁ | obtain rfl := DVs.zX r₁ | cases r₁)
  refine P.len_str (by omega) ?_
  exact post_tk S h (Nat.le_trans (Nat.le_succ _) (Nat.le_succ _)) (.int ..)
theorem truthy_l {d : D} {ds : List D} {Q : Bool → Sig → Prop} (h₁ : Seqs σ d ds) (hz : ds.length ≤ 1000000) (h : Q (!ds.isEmpty) σ) : W1 c eqR truthy d σ Q := fun X s v S r => by
  obtain ⟨b, ws, m, rfl, eb, qb⟩ := h₁.at S r
  have z := qb.length
  refine wpAny_truthy_list (isList_lst eb) (by rw [List.size_toArray]; omega) ?_
  have : (!ws.toArray.isEmpty) = !ds.isEmpty := by cases qb <;> rfl
  rw [this]; exact post_tk S h (Nat.le_trans (Nat.le_succ _) (Nat.le_succ _)) rfl
end
end Mine

namespace Mine
open PySem PySem.W PySem.Calls PyProof.Rows

section
variable {c : Cx} {σ τ ρ : Sig} {X X' : List Addr} {s s₁ s₂ s' : Shared} {it a : Addr} {target : Expr} {env : Env} {f : Ob → Sig}

/-! str methods -/
theorem lower_m {x : Str} {Q : D → Sig → Prop} (hf : Builtin.Str.tooLong (Txt.lower x).length = false) (h : Q (.sg (Txt.lower x)) σ) : W1 c c.DV (fun v => call (.builtin "str.lower") [v]) (.str x) σ Q := fun X s v S r => by
  (first | obtain ⟨_, rfl⟩ := DV.iX r | obtain ⟨_, rfl⟩ := DV.sX r | obtain rfl := DV.nX r | obtain rfl := DV.bX r | obtain rfl := DV.vX r | obtain rfl := DVs.zX r | cases r)
  exact SC.lower hf (post_tk S h (Nat.le_succ _) (.sg S.toks (Nat.lt_succ_self _)))
theorem upper_m {x : Str} {Q : D → Sig → Prop} (hf : Builtin.Str.tooLong (Txt.upper x).length = false) (h : Q (.sg (Txt.upper x)) σ) : W1 c c.DV (fun v => call (.builtin "str.upper") [v]) (.str x) σ Q := fun X s v S r => by
  (first | obtain ⟨_, rfl⟩ := DV.iX r | obtain ⟨_, rfl⟩ := DV.sX r | obtain rfl := DV.nX r | obtain rfl := DV.bX r | obtain rfl := DV.vX r | obtain rfl := DVs.zX r | cases r)
  exact SC.upper hf (post_tk S h (Nat.le_succ _) (.sg S.toks (Nat.lt_succ_self _)))
theorem find_m {x y : Str} {Q : D → Sig → Prop} (h : Q (.int (Txt.find x y)) σ) : WL c c.DV (fun vs => call (.builtin "str.find") vs) [.str x, .str y] σ Q := fun X s vs S r => by
  obtain ⟨_, _, rfl, r₁, r⟩ := DVs.cX r
  obtain ⟨_, _, rfl, r₂, r⟩ := DVs.cX r
  (first | obtain ⟨_, rfl⟩ := DV.iX r | obtain ⟨_, rfl⟩ := DV.sX r | obtain rfl := DV.nX r | obtain rfl := DV.bX r | obtain rfl := DV.vX r | obtain rfl := DVs.zX r | cases r); (first | obtain ⟨_, rfl⟩ := DV.iX r₁ | obtain ⟨_, rfl⟩ := DV.sX r₁ | obtain rfl := DV.nX r₁ | obtain rfl := DV.bX r₁ | obtain rfl := DV.vX r₁ | obtain rfl := DVs.zX r₁ | cases r₁); (first | obtain ⟨_, rfl⟩ := DV.iX r₂ | obtain ⟨_, rfl⟩ := DV.sX r₂ | obtain rfl := DV.nX r₂ | obtain rfl := DV.bX r₂ | obtain rfl := DV.vX r₂ | obtain rfl := DVs.zX r₂ | cases r₂)
  exact SC.find (post_tk S h (Nat.le_succ _) (.int ..))
/-- strs, with or without tokens of their own -/
inductive Strs : List D → List Str → Prop
  | nil : Strs [] []
  | str {x : Str} {ds : List D} {xs : List Str} : Strs ds xs → Strs (.str x :: ds) (x :: xs)
  | sg {x : Str} {ds : List D} {xs : List Str} : Strs ds xs → Strs (.sg x :: ds) (x :: xs)
theorem Strs.vals {bad : List Addr} : ∀ {ds : List D} {xs : List Str} {vs : List Value}, Strs ds xs → c.DVs s bad vs ds → ∃ l : List (Str × Tok), strValues l = vs ∧ l.map (·.1) = xs
  | _, _, _, .nil, .nil => ⟨[], rfl, rfl⟩
  | _, _, _, @Strs.str x _ _ h, .cons r q => by
    obtain ⟨t, rfl⟩ := DV.sX r
    obtain ⟨l, e1, e2⟩ := Strs.vals h q; exact ⟨(x, t) :: l, by rw [← e1]; rfl, by rw [← e2]; rfl⟩
  | _, _, _, @Strs.sg x _ _ h, .cons r q => by
    obtain ⟨t, rfl, _, _⟩ := DV.gX r
    obtain ⟨l, e1, e2⟩ := Strs.vals h q; exact ⟨(x, t) :: l, by rw [← e1]; rfl, by rw [← e2]; rfl⟩
theorem join_m {x : Str} {d : D} {ds : List D} {xs : List Str} {Q : D → Sig → Prop} (h₁ : Seqs σ d ds) (h₂ : Strs ds xs) (hok : JoinOk x xs = true) (h : Q (.str (Txt.join x xs)) σ) : WL c c.DV (fun vs => call (.builtin "str.join") vs) [.str x, d] σ Q := fun X s vs S r => by
  obtain ⟨_, _, rfl, r₁, r⟩ := DVs.cX r
  obtain ⟨_, _, rfl, r₂, r⟩ := DVs.cX r
  (first | obtain ⟨_, rfl⟩ := DV.iX r | obtain ⟨_, rfl⟩ := DV.sX r | obtain rfl := DV.nX r | obtain rfl := DV.bX r | obtain rfl := DV.vX r | obtain rfl := DVs.zX r | cases r); (first | obtain ⟨_, rfl⟩ := DV.iX r₁ | obtain ⟨_, rfl⟩ := DV.sX r₁ | obtain rfl := DV.nX r₁ | obtain rfl := DV.bX r₁ | obtain rfl := DV.vX r₁ | obtain rfl := DVs.zX r₁ | cases r₁)
  obtain ⟨b, ws, m, rfl, eb, qb⟩ := h₁.at S r₂
  obtain ⟨l, e1, e2⟩ := h₂.vals qb
  subst e1
  refine with_toks (SC.join (isList_lst eb) e2 hok fun t' k hk => post_tk S h hk (.str ..))

/-- text.replace(sign, sign.lower()): the two strs are never one -/
theorem E_Repl {o e1 e3 : Expr} {nm : Str} {turn : Str → Str} {apos pos a2 p2 : Pos} {pl pl2 : Sem Bool} {Q : D → Sig → Prop}
    (hM : ∀ (s : Shared) (y : Str) (u : Tok) (P : Value → Shared → Prop), Builtin.Str.tooLong (turn y).length = false → P (.str (turn y) s.toks) { s with toks := s.toks + 1 } →
      wpAny c.M c.A (getMethod (.str y u) nm pl2) (fun fx s₂ => wpAny c.M c.A (callWith p2 fx.1 fx.2 (backTo p2 (starEach [] env)) []) P noE s₂) noE s)
    (he : methForm o "replace" apos pos [e1, .Call (.Attribute e3 nm a2) [] [] p2] env pl)
    (he2 : methForm e3 nm a2 p2 [] env pl2)
    (hp : plainArgs e1 [.Call (.Attribute e3 nm a2) [] [] p2] env) (hpl : (backTo pos (starEach [.Call (.Attribute e3 nm a2) [] [] p2] env)).any (·.1) = false)
    (hq : starEach [.Call (.Attribute e3 nm a2) [] [] p2] env = (false, eval (.Call (.Attribute e3 nm a2) [] [] p2) env) :: starEach [] env)
    (h : WE c o env σ fun d σ₁ => ∃ x, d = .str x ∧ WE c e1 env σ₁ fun d₁ σ₂ => ∃ y, d₁ = .sg y ∧ WE c e3 env σ₂ fun d₂ σ₃ => d₂ = .sg y ∧
      Builtin.Str.tooLong (turn y).length = false ∧ (y == turn y) = false ∧ x.length + (x.length + 1) * (turn y).length ≤ 16777216 ∧
      Q (.str (Txt.replace x y (turn y))) σ₃) : WE c (.Call (.Attribute o "replace" apos) [e1, .Call (.Attribute e3 nm a2) [] [] p2] [] pos) env σ Q := fun X s S => by
  refine MethodCall_ (h.then S fun v s₁ d τ₁ h₁ r₁ S₁ x₁ => ?_) he
  obtain ⟨x, rfl, h₁⟩ := h₁
  obtain ⟨t, rfl⟩ := DV.sX r₁
  (with_reducible refine PySem.GM.replace ?_)
  (with_reducible refine callWith_method1 ?_ hp hpl)
  (with_reducible refine wpAny_items_cons ?_ hp)
  refine (h₁.then S₁ fun v₁ s₂ d₁ τ₂ h₂ r₂ S₂ x₂ => ?_)
  obtain ⟨y, rfl, h₂⟩ := h₂
  obtain ⟨u, rfl, hu0, hu1⟩ := DV.gX r₂
  (with_reducible refine wpAny_items_cons ?_ hq)
  (with_reducible refine MethodCall_ ?_ he2)
  refine (h₂.then S₂ fun v₂ s₃ d₂ τ₃ h₃ r₃ S₃ x₃ => ?_)
  obtain ⟨rfl, hf, hne, hz, hq⟩ := h₃
  have hu3 : u < s₃.toks := Nat.lt_of_lt_of_le hu1 x₃.toks
  obtain ⟨u', rfl, _, _⟩ := DV.gX r₃
  refine hM s₃ y u' _ hf ?_
  (with_reducible refine wpAny_items_nil ?_)
  refine with_toks (s := { s₃ with toks := s₃.toks + 1 }) ?_
  show wpAny c.M c.A (call (.builtin "str.replace") [.str x t, .str y u, .str (turn y) s₃.toks]) _ _ _
  (with_reducible refine SC.replace (Nat.ne_of_gt hu0) (Nat.ne_of_gt S₃.toks) (Nat.ne_of_lt hu3) hne hz ?_)
  exact fun t' k hk => (post_tk S₃ hq (Nat.le_trans (Nat.le_succ _) hk) (.str ..)).after (x₁.trans (x₂.trans x₃))
theorem repl_lower {p2 : Pos} {pl2 : Sem Bool} (s : Shared) (y : Str) (u : Tok) (P : Value → Shared → Prop) (hf : Builtin.Str.tooLong (Txt.lower y).length = false) (h : P (.str (Txt.lower y) s.toks) { s with toks := s.toks + 1 }) :
    wpAny c.M c.A (getMethod (.str y u) "lower" pl2) (fun fx s₂ => wpAny c.M c.A (callWith p2 fx.1 fx.2 (backTo p2 (starEach [] env)) []) P noE s₂) noE s := by
  with_reducible refine PySem.GM.lower ?_
  exact callWith_method0 (SC.lower hf h)
theorem repl_upper {p2 : Pos} {pl2 : Sem Bool} (s : Shared) (y : Str) (u : Tok) (P : Value → Shared → Prop) (hf : Builtin.Str.tooLong (Txt.upper y).length = false) (h : P (.str (Txt.upper y) s.toks) { s with toks := s.toks + 1 }) :
    wpAny c.M c.A (getMethod (.str y u) "upper" pl2) (fun fx s₂ => wpAny c.M c.A (callWith p2 fx.1 fx.2 (backTo p2 (starEach [] env)) []) P noE s₂) noE s := by
  with_reducible refine PySem.GM.upper ?_
  exact callWith_method0 (SC.upper hf h)

/-! sets of ints, by their size -/
inductive Ints : List D → List Int → Prop
  | nil : Ints [] []
  | cons {x : Int} {ds : List D} {xs : List Int} : Ints ds xs → Ints (.int x :: ds) (x :: xs)
theorem Ints.vals {bad : List Addr} : ∀ {ds : List D} {xs : List Int} {vs : List Value}, Ints ds xs → c.DVs s bad vs ds → IntsAre vs xs
  | _, _, _, .nil, .nil => .nil
  | _, _, _, .cons h, .cons r q => by
    obtain ⟨t, rfl⟩ := DV.iX r
    exact .cons _ _ (Ints.vals h q)
noncomputable def distinct (ns : List Int) : Nat := (firstMet (fun i => ns.getD i 0) ns.length).length
theorem set_t {d : D} {ds : List D} {ns : List Int} {Q : D → Sig → Prop} (hh : c.A.handled = none) (h₁ : Seqs σ d ds) (h₂ : Ints ds ns) (hb : ns.length + 1 < scanBound) (h : Q (.st (distinct ns)) σ) : WL c c.DV (fun vs => call (.type "set") vs) [d] σ Q := fun X s vs S r => by
  obtain ⟨_, _, rfl, r₁, r⟩ := DVs.cX r
  (first | obtain ⟨_, rfl⟩ := DV.iX r | obtain ⟨_, rfl⟩ := DV.sX r | obtain rfl := DV.nX r | obtain rfl := DV.bX r | obtain rfl := DV.vX r | obtain rfl := DVs.zX r | cases r)
  obtain ⟨b, ws, m, rfl, eb, qb⟩ := h₁.at S r₁
  have hi := h₂.vals qb
  have hl : ws.length = ns.length := hi.length
  refine with_toks (PySem.call_set_list (items := ws.toArray) (ns := ns) hh (isList_lst eb) (by simpa using hi) (by rw [List.size_toArray, hl]; exact hb) fun h' tk hS hk ht => ?_)
  have hk' : ∀ b o, s.heap.get? b = some o → h'.get? b = some o := fun b o e => hk b o (Heap.lt_size e) e
  rw [show ws.toArray.size = ns.length by rw [List.size_toArray, hl]] at hS
  exact ⟨.st _, σ, h, .st hS (fresh_bad S), S.ext hk' ht, ⟨rfl, fun b o _ e => hk' b o e, fun a ha => .inl ha, ht⟩⟩
theorem len_st {n : Nat} {Q : D → Sig → Prop} (h : Q (.int n) σ) : WL c c.DV (fun vs => call (.builtin "len") vs) [.st n] σ Q := fun X s vs S r => by
  obtain ⟨_, _, rfl, r₁, r⟩ := DVs.cX r
  (first | obtain ⟨_, rfl⟩ := DV.iX r | obtain ⟨_, rfl⟩ := DV.sX r | obtain rfl := DV.nX r | obtain rfl := DV.bX r | obtain rfl := DV.vX r | obtain rfl := DVs.zX r | cases r)
  obtain ⟨_, _, rfl, x, _⟩ := DV.stX r₁
  obtain ⟨o, es, ep, t, ho, hex, hd, _, _, hlt, hf, rfl⟩ := x
  refine PySem.call_len_set ho hex hd hf (by unfold scanBound at hlt; omega) ?_
  exact post_tk S h (Nat.le_trans (Nat.le_succ _) (Nat.le_succ _)) (.int ..)

/-! a str among strs -/
theorem notin_l {x : Str} {d : D} {ds : List D} {xs : List Str} {Q : D → Sig → Prop} (h₁ : Seqs σ d ds) (h₂ : Strs ds xs) (h : Q (.bool (!xs.any (· == x))) σ) : W2 c c.DV (compareOp .NotIn) (.str x) d σ Q := fun X s v₁ v₂ S r₁ r₂ => by
  obtain ⟨u, rfl⟩ := DV.sX r₁
  obtain ⟨b, ws, m, rfl, eb, qb⟩ := h₁.at S r₂
  obtain ⟨l, e1, e2⟩ := h₂.vals qb
  subst e1 e2
  refine PySem.SeqAt.notIn_listAt (fun v => match v with | .str y _ => y == x | _ => false) (isList_lst eb) (fun y hy => ?_) ?_
  · obtain ⟨p, hp, rfl⟩ := List.mem_map.mp (show y ∈ List.map (fun p => Value.str p.1 p.2) l by simpa [strValues] using hy)
    exact PySem.SeqAt.EqAt.str_str _ _ _ _
  · have : (strValues l).toArray.any (fun v => match v with | .str y _ => y == x | _ => false) = (l.map (·.1)).any (· == x) := by
      rw [List.any_toArray]
      simp only [strValues, List.any_map]
      rfl
    rw [this]
    exact post_here S (.bool _) h
end
end Mine

namespace Mine
open PySem PySem.W PySem.Calls PyProof.Rows

section
variable {c : Cx} {σ τ ρ : Sig} {X X' : List Addr} {s s₁ s₂ s' : Shared} {it a : Addr} {target : Expr} {env : Env} {f : Ob → Sig}

/-! types -/
theorem type_s {x : Str} {Q : D → Sig → Prop} (h : Q (.val (.type "str")) σ) : WL c c.DV (fun vs => call (.type "type") vs) [.str x] σ Q := fun X s vs S r => by
  obtain ⟨_, _, rfl, r₁, r⟩ := DVs.cX r
  (first | obtain ⟨_, rfl⟩ := DV.iX r | obtain ⟨_, rfl⟩ := DV.sX r | obtain rfl := DV.nX r | obtain rfl := DV.bX r | obtain rfl := DV.vX r | obtain rfl := DVs.zX r | cases r); (first | obtain ⟨_, rfl⟩ := DV.iX r₁ | obtain ⟨_, rfl⟩ := DV.sX r₁ | obtain rfl := DV.nX r₁ | obtain rfl := DV.bX r₁ | obtain rfl := DV.vX r₁ | obtain rfl := DVs.zX r₁ | cases r₁)
  exact PySem.call_type_of (typeIs_str _ _ _) (by decide) (post_here S (.val _) h)
theorem type_l {d : D} {ds : List D} {Q : D → Sig → Prop} (h₁ : Seqs σ d ds) (h : Q (.val (.type "list")) σ) : WL c c.DV (fun vs => call (.type "type") vs) [d] σ Q := fun X s vs S r => by
  obtain ⟨_, _, rfl, r₁, r⟩ := DVs.cX r
  (first | obtain ⟨_, rfl⟩ := DV.iX r | obtain ⟨_, rfl⟩ := DV.sX r | obtain rfl := DV.nX r | obtain rfl := DV.bX r | obtain rfl := DV.vX r | obtain rfl := DVs.zX r | cases r)
  obtain ⟨b, ws, m, rfl, eb, qb⟩ := h₁.at S r₁
  exact PySem.call_type_of (isList_lst eb).typeIs (by decide) (post_here S (.val _) h)
theorem is_ty {T : String} {Q : D → Sig → Prop} (h : Q (.bool true) σ) : W2 c c.DV (compareOp .Is) (.val (.type T)) (.val (.type T)) σ Q := fun X s v₁ v₂ S r₁ r₂ => by
  (first | obtain ⟨_, rfl⟩ := DV.iX r₁ | obtain ⟨_, rfl⟩ := DV.sX r₁ | obtain rfl := DV.nX r₁ | obtain rfl := DV.bX r₁ | obtain rfl := DV.vX r₁ | obtain rfl := DVs.zX r₁ | cases r₁); (first | obtain ⟨_, rfl⟩ := DV.iX r₂ | obtain ⟨_, rfl⟩ := DV.sX r₂ | obtain rfl := DV.nX r₂ | obtain rfl := DV.bX r₂ | obtain rfl := DV.vX r₂ | obtain rfl := DVs.zX r₂ | cases r₂)
  exact wpAny_is_self rfl (post_here S (.bool _) h)
theorem isNot_ty {T : String} {Q : D → Sig → Prop} (h : Q (.bool false) σ) : W2 c c.DV (compareOp .IsNot) (.val (.type T)) (.val (.type T)) σ Q := fun X s v₁ v₂ S r₁ r₂ => by
  (first | obtain ⟨_, rfl⟩ := DV.iX r₁ | obtain ⟨_, rfl⟩ := DV.sX r₁ | obtain rfl := DV.nX r₁ | obtain rfl := DV.bX r₁ | obtain rfl := DV.vX r₁ | obtain rfl := DVs.zX r₁ | cases r₁); (first | obtain ⟨_, rfl⟩ := DV.iX r₂ | obtain ⟨_, rfl⟩ := DV.sX r₂ | obtain rfl := DV.nX r₂ | obtain rfl := DV.bX r₂ | obtain rfl := DV.vX r₂ | obtain rfl := DVs.zX r₂ | cases r₂)
  exact wpAny_isNot_self rfl (post_here S (.bool _) h)
theorem isi_int {n : Int} {Q : D → Sig → Prop} (h : Q (.bool false) σ) : WL c c.DV (fun vs => call (.builtin "isinstance") vs) [.int n, .val (.type "tuple")] σ Q := fun X s vs S r => by
  obtain ⟨_, _, rfl, r₁, r⟩ := DVs.cX r
  obtain ⟨_, _, rfl, r₂, r⟩ := DVs.cX r
  (first | obtain ⟨_, rfl⟩ := DV.iX r | obtain ⟨_, rfl⟩ := DV.sX r | obtain rfl := DV.nX r | obtain rfl := DV.bX r | obtain rfl := DV.vX r | obtain rfl := DVs.zX r | cases r); (first | obtain ⟨_, rfl⟩ := DV.iX r₁ | obtain ⟨_, rfl⟩ := DV.sX r₁ | obtain rfl := DV.nX r₁ | obtain rfl := DV.bX r₁ | obtain rfl := DV.vX r₁ | obtain rfl := DVs.zX r₁ | cases r₁); (first | obtain ⟨_, rfl⟩ := DV.iX r₂ | obtain ⟨_, rfl⟩ := DV.sX r₂ | obtain rfl := DV.nX r₂ | obtain rfl := DV.bX r₂ | obtain rfl := DV.vX r₂ | obtain rfl := DVs.zX r₂ | cases r₂)
  exact PySem.IsiPair.int_tuple (post_tk S h (Nat.le_succ _) (.bool _))
theorem E_debug {pos : Pos} {Q : D → Sig → Prop} (h : Q (.bool true) σ) : WE c (.Name "__debug__" pos) env σ Q := fun X s S => by
  show wpAny _ _ (do standAt pos; if (("__debug__" : Str) == ("__debug__" : Str)) = true then debugConstant else loadName env "__debug__") _ _ _
  rw [if_pos (beq_self_eq_true _)]
  exact wpAny_bind (wpAny_standAt (wpAny_bind (wpAny_rule (wpAny_pure (post_here S (.bool _) h)))))

theorem range_t {n : Nat} {Q : D → Sig → Prop} (h : Q (.rng n) σ) : WL c c.DV (fun vs => call (.type "range") vs) [.int n] σ Q := fun X s vs S r => by
  obtain ⟨_, _, rfl, r₁, r⟩ := DVs.cX r
  (first | obtain ⟨_, rfl⟩ := DV.iX r | obtain ⟨_, rfl⟩ := DV.sX r | obtain rfl := DV.nX r | obtain rfl := DV.bX r | obtain rfl := DV.vX r | obtain rfl := DVs.zX r | cases r); cases r₁ with
  | int _ t =>
    refine call_range_1 ⟨.rng n, σ, h, .rng (IsRange.new ..) (fresh_bad S), S.ext (fun b o e => Heap.get?_push_of_some _ e) (Nat.le_trans (Nat.le_succ _) (Nat.le_succ _)), ⟨rfl, fun b o _ e => Heap.get?_push_of_some _ e, fun a ha => .inl ha, Nat.le_trans (Nat.le_succ _) (Nat.le_succ _)⟩⟩

/-! frozen -/
inductive Gone (a : Addr) (ob : Ob) : Sig → Sig → Prop
  | head {r : Sig} : Gone a ob ((a, ob) :: r) r
  | tail {p : Addr × Ob} {r r' : Sig} : Gone a ob r r' → Gone a ob (p :: r) (p :: r')
theorem Gone.perm {ob : Ob} (H : Gone a ob σ τ) : σ.Perm ((a, ob) :: τ) := by
  induction H with
  | head => exact .refl _
  | tail _ ih => exact (ih.cons _).trans (.swap ..)
theorem Gone.st {ob : Ob} (H : Gone a ob σ τ) (S : c.St X σ s) : c.St X τ s := (S.perm H.perm).drop1
theorem Gone.grow {ob : Ob} (H : Gone a ob σ τ) : Grow s (X ++ adrs σ) s (X ++ adrs τ) := Grow.refl fun b hb => by
  rcases List.mem_append.mp hb with q | q
  · exact List.mem_append.mpr (.inl q)
  · exact List.mem_append.mpr (.inr ((H.perm.map (·.1)).mem_iff.mpr (.tail _ q)))
theorem Gone.step {ob : Ob} (H : Gone a ob σ τ) : Step σ τ s s := ⟨rfl, fun _ _ _ e => e, fun a ha => .inl ((H.perm.map (·.1)).mem_iff.mpr (.tail _ ha)), Nat.le_refl _⟩
theorem Gone.bad {ob : Ob} (H : Gone a ob σ τ) (S : c.St X σ s) : a ∉ X ++ adrs τ := fun hm => by
  have S' := S.perm H.perm
  rcases List.mem_append.mp hm with q | q
  · exact S'.apart a (.head _) q
  · exact (List.nodup_cons.mp S'.nodup).1 q
theorem Gone.lst {ds : List D} (H : Gone a (.list ds) σ τ) (S : c.St X σ s) : c.DV s (X ++ adrs τ) (.ref a) (.lst ds) := by
  obtain ⟨vs, n, e, q⟩ := (S.perm H.perm).hold _ (.head _)
  exact .lst e (H.bad S) (DVs.grow ((show Gone a (.list ds) ((a, .list ds) :: τ) τ from .head).grow) q)
theorem Gone.dct {es : List (Str × D)} (H : Gone a (.dict es) σ τ) (S : c.St X σ s) : c.DV s (X ++ adrs τ) (.ref a) (.dct es) := by
  obtain ⟨hm, kvs, e, q⟩ := (S.perm H.perm).hold _ (.head _)
  exact .dct hm e (H.bad S) (DKs.grow ((show Gone a (.dict es) ((a, .dict es) :: τ) τ from .head).grow) q)
/-- from here on nobody turns this list -/
theorem E_iceL {e : Expr} {Q : D → Sig → Prop} (h : WE c e env σ fun d σ₁ => ∃ a ds σ₂, d = .val (.ref a) ∧ Gone a (.list ds) σ₁ σ₂ ∧ Q (.lst ds) σ₂) : WE c e env σ Q := fun X s S =>
  h.then S fun v s₁ d τ₁ ⟨a, ds, σ₂, hd, H, hq⟩ r S₁ x₁ => by
    subst hd; (first | obtain ⟨_, rfl⟩ := DV.iX r | obtain ⟨_, rfl⟩ := DV.sX r | obtain rfl := DV.nX r | obtain rfl := DV.bX r | obtain rfl := DV.vX r | obtain rfl := DVs.zX r | cases r)
    exact ⟨.lst ds, σ₂, hq, H.lst S₁, H.st S₁, x₁.trans H.step⟩
theorem E_iceD {e : Expr} {Q : D → Sig → Prop} (h : WE c e env σ fun d σ₁ => ∃ a es σ₂, d = .val (.ref a) ∧ Gone a (.dict es) σ₁ σ₂ ∧ Q (.dct es) σ₂) : WE c e env σ Q := fun X s S =>
  h.then S fun v s₁ d τ₁ ⟨a, es, σ₂, hd, H, hq⟩ r S₁ x₁ => by
    subst hd; (first | obtain ⟨_, rfl⟩ := DV.iX r | obtain ⟨_, rfl⟩ := DV.sX r | obtain rfl := DV.nX r | obtain rfl := DV.bX r | obtain rfl := DV.vX r | obtain rfl := DVs.zX r | cases r)
    exact ⟨.dct es, σ₂, hq, H.dct S₁, H.st S₁, x₁.trans H.step⟩

/-! views of dicts -/
theorem gm_items {d : D} {es : List (Str × D)} (h : Dicts σ d es) : GM c "items" d σ "dict.items" := gm_dict PySem.F.slot_dict_items PySem.F.type_dict_items h
theorem gm_values {d : D} {es : List (Str × D)} (h : Dicts σ d es) : GM c "values" d σ "dict.values" := gm_dict PySem.F.slot_dict_values PySem.F.type_dict_values h
theorem gmS_replace {x : Str} : GM c "replace" (.str x) σ "str.replace" := gm_str PySem.F.slot_str_replace PySem.F.type_str_replace
theorem gmS_lower {x : Str} : GM c "lower" (.str x) σ "str.lower" := gm_str PySem.F.slot_str_lower PySem.F.type_str_lower
theorem gmS_upper {x : Str} : GM c "upper" (.str x) σ "str.upper" := gm_str PySem.F.slot_str_upper PySem.F.type_str_upper
theorem gmS_find {x : Str} : GM c "find" (.str x) σ "str.find" := gm_str PySem.F.slot_str_find PySem.F.type_str_find
theorem gmS_join {x : Str} : GM c "join" (.str x) σ "str.join" := gm_str PySem.F.slot_str_join PySem.F.type_str_join
end
end Mine

namespace Mine
open PySem PySem.W PySem.Calls PyProof.Rows

section
variable {c : Cx} {σ τ ρ : Sig} {X X' : List Addr} {s s₁ s₂ s' : Shared} {it a C : Addr} {target : Expr} {env : Env} {f : Ob → Sig} {K : Frag}

theorem items_m {es : List (Str × D)} {Q : D → Sig → Prop} (h : Q (.items es) σ) : W1 c c.DV (fun v => call (.builtin "dict.items") [v]) (.dct es) σ Q := fun X s v S r => by
  obtain ⟨a, kvs, rfl, hm, x, nb, q⟩ := DV.dX r
  refine call_meetsIn PySem.F.slot_dict_items x.typeIs PySem.F.entry_dict_items (PySem.F.args_dict_items_1 _) (meets_dict_items (strKind c.prog c.w) a hm) ⟨⟨kvs, x⟩, ?_⟩
  exact ⟨_, σ, h, .items (Heap.get?_push_size _ rfl) (fresh_bad S) ((DV.dct hm x nb q).grow grow_push), S.pushed, .pushed⟩
theorem values_m {es : List (Str × D)} {Q : D → Sig → Prop} (h : Q (.vals es) σ) : W1 c c.DV (fun v => call (.builtin "dict.values") [v]) (.dct es) σ Q := fun X s v S r => by
  obtain ⟨a, kvs, rfl, hm, x, nb, q⟩ := DV.dX r
  refine call_meetsIn PySem.F.slot_dict_values x.typeIs PySem.F.entry_dict_values (PySem.F.args_dict_values_1 _) (meets_dict_values (strKind c.prog c.w) a hm) ⟨⟨kvs, x⟩, ?_⟩
  exact ⟨_, σ, h, .vals (Heap.get?_push_size _ rfl) (fresh_bad S) ((DV.dct hm x nb q).grow grow_push), S.pushed, .pushed⟩

/-! objects -/
theorem E_Attr {value : Expr} {attr : Str} {pos : Pos} {Q : D → Sig → Prop} (he : eval (.Attribute value attr pos) env = (do
      let o ← eval value env
      standAt pos.atName
      let r ← holding [o] (getAttr o attr true)
      letTemporaryGo value o r
      pure r)) (h : WE c value env σ fun d σ₁ => W1 c c.DV (fun v => getAttr v attr true) d σ₁ Q) : WE c (.Attribute value attr pos) env σ Q := fun X s S =>
  Attribute_any_ (h.then S fun v s₁ d τ₁ h₁ r₁ S₁ x₁ => post_of x₁ (h₁ X s₁ v S₁ r₁)) he
theorem beq_k (k : Str) (t : Tok) : (Value.str k t).isStr k = true := by
  show ((k : Str) == k) = true; simp
theorem look_attr {h : Int} {k : Str} {t : Tok} {v : Value} {n : Nat} : lookIn k (attrObj h k t v n) = some (some v) := by
  simp only [lookIn, attrObj, dictOf]
  have : [({ hash := h, key := .str k t, val := v } : DictEntry)].find? (fun e => e.key.isStr k) = some { hash := h, key := .str k t, val := v } := by rw [List.find?_cons, beq_k]
  simp only [List.toArray, this]
theorem look_other {h : Int} {k x : Str} {t : Tok} {v : Value} {n : Nat} (hne : (Value.str k 0).isStr x = false) : lookIn x (attrObj h k t v n) = some none := by
  simp only [lookIn, attrObj, dictOf]
  have e1 : [({ hash := h, key := .str k t, val := v } : DictEntry)].find? (fun e => e.key.isStr x) = none := by rw [List.find?_cons, show (Value.str k t).isStr x = false from hne]; rfl
  have e2 : [({ hash := h, key := .str k t, val := v } : DictEntry)].any (·.refKey) = false := rfl
  simp only [List.toArray, e1, e2]
  rfl

theorem instAt {x dx : Addr} {od : Obj} (e : s.heap.get? x = some (instObj C dx)) (f : s.heap.get? dx = some od) : InstAt s.heap x (instObj C dx) C (some od) := ⟨e, rfl, rfl, f⟩

/-- what a plain class answers -/
structure ClsOk (K : Frag) (C : Addr) (k : Str) : Prop where
  ga : findIn K (.ref C) "__getattribute__" = some (some (.builtin "object.__getattribute__"))
  gat : findIn K (.ref C) "__getattr__" = some Option.none
  own : findIn K (.ref C) k = some Option.none
  sa : findIn K (.ref C) "__setattr__" = some (some (.builtin "object.__setattr__"))
  over : plainOver K C = true
  taker : takerIn K C k = some Option.none
  hasD : (clsIn K C).any (·.hasDict) = true
  makes : makesIn K C = true

theorem get_attr {k : Str} {d : D} {Q : D → Sig → Prop} (X₀ : K.In c.B) (ok : ClsOk K C k) (hd : ∀ s bad v, c.DV s bad v d → handedIn v = true) (h : Q d σ) : W1 c c.DV (fun v => getAttr v k true) (.inst C k d) σ Q := fun X s v S r => by
  obtain ⟨_, _, _, _, _, _, rfl, e, f, n1, n2, r⟩ := DV.nstX r
  have Y := X₀.keeps S.keep
  obtain ⟨cd, hc, hh⟩ := any_some ok.hasD
  refine get_value Y (instAt e f) ok.ga ?_ (hd _ _ _ r) (post_tk S h (Nat.le_succ _) (r.grow (Step.grow (.tk (Nat.le_succ _)) X)))
  unfold findObj
  rw [hc, Option.bind_some, ok.own, Option.bind_some]
  simp only [Option.bind_some, PySem.W.ownOf, hh, if_true, look_attr]

theorem gm_fn {k name : Str} {d : D} {fn : Addr} {pl : Sem Bool} {v : Value} {P : Value × List Value → Shared → Prop} (X₀ : K.In c.B) (ok : ClsOk K C k) (hf : findIn K (.ref C) name = some (some (.ref fn))) (ht : typeIn K (.ref fn) = some (.type "function")) (hne : (Value.str k 0).isStr name = false)
    (S : c.St X σ s) (r : c.DV s (X ++ adrs σ) v (.inst C k d)) (h : P (.ref fn, [v]) s) : wpAny c.M c.A (getMethod v name pl) P noE s := by
  obtain ⟨_, _, _, _, _, _, rfl, e, f, n1, n2, r⟩ := DV.nstX r
  refine method_fn (X₀.keeps S.keep) (instAt e f) ok.ga ok.gat hf ht ?_ h
  show (lookIn name (attrObj _ k _ _ _)).map (·.isSome) = some false
  rw [look_other hne]; rfl

theorem set_attr {x dx : Addr} {k : Str} {d : D} {fx fd : Ob → Sig} {Q : Unit → Sig → Prop} (X₀ : K.In c.B) (ok : ClsOk K C k) (Hx : Hole x (.obj (instObj C dx)) σ fx) (Hd : Hole dx (.obj emptyDict) σ fd) (h : Q () (fd (.one k d))) :
    W2 c eqR (fun ov v => setAttr ov k v) (.val (.ref x)) d σ Q := fun X s v₁ v S r₁ r => by
  (first | obtain ⟨_, rfl⟩ := DV.iX r₁ | obtain ⟨_, rfl⟩ := DV.sX r₁ | obtain rfl := DV.nX r₁ | obtain rfl := DV.bX r₁ | obtain rfl := DV.vX r₁ | obtain rfl := DVs.zX r₁ | cases r₁)
  have Y := X₀.keeps S.keep
  have ex := (Hx.hold S).1
  have ed := (Hd.hold S).1
  have I := instAt ex ed
  refine set_plain Y I ok.sa ?_
  refine osa_open (s := { s with toks := s.toks + 1 }) Y I ok.over ok.taker fun b => ?_
  obtain ⟨cd, hc, hh⟩ := any_some ok.hasD
  refine wpAny_bind (wpAny_pure (wpAny_bind (wpAny_bind (wpAny_loadPart ex (wpAny_bind (Looks.here (s := { s with toks := s.toks + 1 }) (looks_clsIn Y hc) ?_))))))
  rw [hh]
  refine wpAny_pure (a := some dx) (wpAny_bind (wpAny_pure (wpAny_bind ?_)))
  unfold nsSet
  refine wpAny_bind (wpAny_bind (wpAny_askSetting (wpAny_pure (wpAny_bind (wpAny_mkText (wpAny_bind (wpAny_loadPart ed ?_)))))))
  dsimp only
  rw [aRefKeyMayBeTheName_at]
  generalize (if k.cps.isEmpty = true then (0 : Int) else _) = hsh
  rw [show ((!(#[] : Array DictEntry).any (fun x => x.key.isStr k)) && (#[] : Array DictEntry).any (fun x => x.refKey)) = false by simp, if_neg Bool.false_ne_true]
  have up : (s.heap.update dx (Obj.putName k hsh (.str k (s.toks + 1)) v)).get? dx = some (attrObj hsh k (s.toks + 1) v 1) := Heap.get?_update_self _ ed rfl
  have hk : ∀ b o, b ≠ dx → s.heap.get? b = some o → (s.heap.update dx (Obj.putName k hsh (.str k (s.toks + 1)) v)).get? b = some o := fun b o hb e => (Heap.get?_update_other _ _ (Ne.symm hb)).trans e
  refine wpAny_updatePart (s := { s with toks := s.toks + 1 + 1 }) ed ?_
  refine wpAny_bind (wpAny_lookBehind (s := { s with heap := s.heap.update dx (Obj.putName k hsh (.str k (s.toks + 1)) v), toks := s.toks + 1 + 1 }) up (pastItsLine_dict (by simp [sizeLine_eq])) ?_)
  have st : Step σ (fd (.one k d)) s { s with heap := s.heap.update dx (Obj.putName k hsh (.str k (s.toks + 1)) v), toks := s.toks + 1 + 1 } := .set Hd rfl hk (Nat.le_trans (Nat.le_succ _) (Nat.le_succ _))
  have g := st.grow X
  rw [Hd.adrs_eq] at g
  exact wpAny_pure ⟨(), _, h, rfl, S.set Hd hk (Nat.le_trans (Nat.le_succ _) (Nat.le_succ _)) ⟨_, _, v, _, up, r.grow g⟩, st⟩
end
end Mine

namespace Mine
open PySem PySem.W PySem.Calls PyProof.Rows

section
variable {c : Cx} {σ τ ρ : Sig} {X X' : List Addr} {s s₁ s₂ s' : Shared} {it a C : Addr} {target : Expr} {env : Env} {f : Ob → Sig} {K : Frag}

theorem if_t {a b : Prop} (h : a) : if true = true then a else b := h
theorem if_f {a b : Prop} (h : b) : if false = true then a else b := h
theorem if_d {p a b : Prop} [Decidable p] (h1 : p → a) (h2 : ¬ p → b) : if decide p = true then a else b := by
  by_cases h : p
  · rw [decide_eq_true h]; exact h1 h
  · rw [decide_eq_false h]; exact h2 h
theorem if_nd {p a b : Prop} [Decidable p] (h1 : p → b) (h2 : ¬ p → a) : if (!decide p) = true then a else b := by
  by_cases h : p
  · rw [decide_eq_true h]; exact h1 h
  · rw [decide_eq_false h]; exact h2 h
/-- a method of a class of the text is got -/
noncomputable def GMF (c : Cx) (name : Str) (d : D) (σ : Sig) (fn : Addr) : Prop :=
  ∀ X s v pl (P : Value × List Value → Shared → Prop), c.St X σ s → c.DV s (X ++ adrs σ) v d → P (.ref fn, [v]) s → wpAny c.M c.A (getMethod v name pl) P noE s
theorem gmf {k name : Str} {d : D} {fn : Addr} (X₀ : K.In c.B) (ok : ClsOk K C k) (hf : findIn K (.ref C) name = some (some (.ref fn))) (ht : typeIn K (.ref fn) = some (.type "function")) (hne : (Value.str k 0).isStr name = false) : GMF c name (.inst C k d) σ fn :=
  fun X s v pl P S r h => gm_fn X₀ ok hf ht hne S r h

theorem E_MethF {o e : Expr} {rest : List Expr} {name : Str} {apos pos : Pos} {pl : Sem Bool} {Q : D → Sig → Prop} (X₀ : K.In c.B) (he : methForm o name apos pos (e :: rest) env pl)
    (hp : plainArgs e rest env) (hpl : (backTo pos (starEach rest env)).any (·.1) = false)
    (h : WE c o env σ fun d σ₁ => ∃ fn, GMF c name d σ₁ fn ∧ keepIn K (.ref fn) = true ∧ WI c (e :: rest) env pos σ₁ fun ds σ₂ => WL c c.DV (fun vs => call (.ref fn) vs) (d :: ds) σ₂ Q) : WE c (.Call (.Attribute o name apos) (e :: rest) [] pos) env σ Q := fun X s S =>
  MethodCall_ (h.then S fun v s₁ d τ₁ h₁ r₁ S₁ x₁ => by
    obtain ⟨fn, g, hk, h₁⟩ := h₁
    exact g X s₁ v _ _ S₁ r₁ (callWith_K X₀ hk (h₁.then S₁ fun vs s₂ ds τ₂ h₂ r₂ S₂ x₂ => ⟨X₀.keeps S₂.keep, post_of (x₁.trans x₂) (h₂ X s₂ (v :: vs) S₂ (.cons (r₁.grow (x₂.grow X)) r₂))⟩) hp hpl)) he
theorem E_MethF0 {o : Expr} {name : Str} {apos pos : Pos} {pl : Sem Bool} {Q : D → Sig → Prop} (X₀ : K.In c.B) (he : methForm o name apos pos [] env pl)
    (h : WE c o env σ fun d σ₁ => ∃ fn, GMF c name d σ₁ fn ∧ keepIn K (.ref fn) = true ∧ WL c c.DV (fun vs => call (.ref fn) vs) [d] σ₁ Q) : WE c (.Call (.Attribute o name apos) [] [] pos) env σ Q := fun X s S =>
  MethodCall_ (h.then S fun v s₁ d τ₁ h₁ r₁ S₁ x₁ => by
    obtain ⟨fn, g, hk, h₁⟩ := h₁
    exact g X s₁ v _ _ S₁ r₁ (callWith_K0 (X₀.keeps S₁.keep) hk (post_of x₁ (h₁ X s₁ [v] S₁ (.cons r₁ .nil))))) he
/-- with one keyword, a constant -/
theorem E_MethFK {o e : Expr} {rest : List Expr} {name kn : Str} {b : Bool} {kk : Nat} {apos pos kp kpos : Pos} {pl : Sem Bool} {Q : D → Sig → Prop} (X₀ : K.In c.B)
    (he : eval (.Call (.Attribute o name apos) (e :: rest) [⟨some kn, .Constant (.bool b) kk kp, kpos⟩] pos) env = (do
      let ov ← eval o env
      standAt apos.atName
      let (f, first) ← holding [ov] (getMethod ov name pl)
      callWith pos f first (backTo pos (starEach (e :: rest) env)) (backToKw pos (keywordEach [⟨some kn, .Constant (.bool b) kk kp, kpos⟩] env))))
    (hp : plainArgs e rest env) (hpl : ((backTo pos (starEach (e :: rest) env)).any (·.1) || (backToKw pos (keywordEach [⟨some kn, .Constant (.bool b) kk kp, kpos⟩] env)).any (·.1.isNone)) = false)
    (h : WE c o env σ fun d σ₁ => ∃ fn, GMF c name d σ₁ fn ∧ keepIn K (.ref fn) = true ∧ WI c (e :: rest) env pos σ₁ fun ds σ₂ => WL c c.DV (fun vs => call (.ref fn) vs [(kn, .bool b)]) (d :: ds) σ₂ Q) :
    WE c (.Call (.Attribute o name apos) (e :: rest) [⟨some kn, .Constant (.bool b) kk kp, kpos⟩] pos) env σ Q := fun X s S =>
  methodCall_KW (h.then S fun v s₁ d τ₁ h₁ r₁ S₁ x₁ => by
    obtain ⟨fn, g, hk, h₁⟩ := h₁
    refine g X s₁ v _ _ S₁ r₁ (callWith_KW X₀ hk rfl (h₁.then S₁ fun vs s₂ ds τ₂ h₂ r₂ S₂ x₂ => ?_) hpl hp)
    refine wpAny_evalAll_cons (x := do let v ← eval (.Constant (.bool b) kk kp) env; standAt pos; pure v) (rest := []) (wpAny_bind (wpAny_Constant_bool (wpAny_bind (wpAny_standAt (wpAny_pure (wpAny_evalAll_nil ?_))))))
    exact ⟨X₀.keeps S₂.keep, post_of (x₁.trans x₂) (h₂ X s₂ (v :: vs) S₂ (.cons (r₁.grow (x₂.grow X)) r₂))⟩) he

theorem S_AssignAttr {o value : Expr} {attr : Str} {px pos : Pos} {Q : Fl → Sig → Prop} (hs : swapsWith value (some (.Attribute o attr px)) pos.line env = pure false)
    (h : WE c value env σ fun d σ₁ => WE c o env σ₁ fun d₁ σ₂ => W2 c eqR (fun ov v => setAttr ov attr v) d₁ d σ₂ fun (_ : Unit) σ₃ => Q .next σ₃) : WS c (.Assign [.Attribute o attr px] value pos) env σ Q := fun X s S =>
  plainObj_wpAny_Assign_Attribute (h.then S fun v s₁ d τ₁ h₁ r₁ S₁ x₁ => h₁.then S₁ fun ov s₂ d₁ τ₂ h₂ r₂ S₂ x₂ =>
    Post.then (h₂ X s₂ ov v S₂ r₂ (r₁.grow (x₂.grow X))) fun _ s₃ _ τ₃ h₃ _ S₃ x₃ => ⟨.next, τ₃, h₃, .next, S₃, x₁.trans (x₂.trans x₃)⟩) hs

/-- a class of the text is called -/
theorem new_inst {fI : Addr} {ds : List D} {Q : D → Sig → Prop} (X₀ : K.In c.B) (hm : makesIn K C = true) (hi : findIn K (.ref C) "__init__" = some (some (.ref fI))) (hf : typeIn K (.ref fI) = some (.type "function"))
    (h : ∀ (A' : Around) x dx, A'.depth = c.A.depth + 1 → A'.handled = c.A.handled → A'.units ≤ c.A.units + 4 → WC { c with A := A' } (.ref fI) [] (.val (.ref x) :: ds) ((x, .obj (instObj C dx)) :: (dx, .obj emptyDict) :: σ) fun d τ =>
      d = .none ∧ ∃ k d' τ', τ = (x, .obj (instObj C dx)) :: (dx, .one k d') :: τ' ∧ Q (.inst C k d') τ') :
    WL c c.DV (fun vs => call (.ref C) vs) ds σ Q := fun X s vs S r => by
  obtain ⟨hp, g, dr, tk, os⟩ := s
  refine wpAny_call (make_core (makes_of (X₀.keeps S.keep) hm) (looks_findIn (X₀.keeps S.keep) hi) (fun self => bind_fn (X₀.keeps S.keep) self hf) (.inl rfl) ?_)
  have k1 : ∀ b o, hp.get? b = some o → ((hp.push emptyDict).push (instObj C hp.objs.size)).get? b = some o := fun b o e => Heap.get?_push_of_some _ (Heap.get?_push_of_some _ e)
  have ex : ((hp.push emptyDict).push (instObj C hp.objs.size)).get? (hp.objs.size + 1) = some (instObj C hp.objs.size) := by
    have := Heap.get?_push_size (hp.push emptyDict) (o := instObj C hp.objs.size) rfl
    rwa [Heap.size_push] at this
  have ed : ((hp.push emptyDict).push (instObj C hp.objs.size)).get? hp.objs.size = some emptyDict := Heap.get?_push_of_some _ (Heap.get?_push_size _ rfl)
  have fresh : ∀ b ∈ adrs [(hp.objs.size + 1, Ob.obj (instObj C hp.objs.size)), (hp.objs.size, Ob.obj emptyDict)], hp.get? b = none := by
    intro b hb
    simp only [List.map_cons, List.map_nil, List.mem_cons, List.not_mem_nil, or_false] at hb
    rcases hb with rfl | rfl
    · exact Heap.get?_none_of_le (Nat.le_succ _)
    · exact get_size
  obtain ⟨S₂, g₂⟩ := S.adds (s' := ⟨(hp.push emptyDict).push (instObj C hp.objs.size), g, dr, tk, os⟩) (ρ := [(hp.objs.size + 1, Ob.obj (instObj C hp.objs.size)), (hp.objs.size, Ob.obj emptyDict)]) k1 (Nat.le_refl _)
    (by simp) fresh (fun g p hpp => by
      simp only [List.mem_cons, List.not_mem_nil, or_false] at hpp
      rcases hpp with rfl | rfl
      · exact ⟨ex, rfl⟩
      · exact ⟨ed, rfl⟩)
  have st : Step σ ([(hp.objs.size + 1, Ob.obj (instObj C hp.objs.size)), (hp.objs.size, Ob.obj emptyDict)] ++ σ) ⟨hp, g, dr, tk, os⟩ ⟨(hp.push emptyDict).push (instObj C hp.objs.size), g, dr, tk, os⟩ := .adds rfl k1 (Nat.le_refl _) fresh
  refine codeAny_mono (h (c.A.under (.builtin "type.__call__" ⟨.ref C :: vs, []⟩)) (hp.objs.size + 1) hp.objs.size rfl rfl (Nat.add_le_add_left (show (Code.builtin "type.__call__" ⟨.ref C :: vs, []⟩).cUnits ≤ 4 from Nat.le_of_ble_eq_true (by rfl)) _) X _ (.ref (hp.objs.size + 1) :: vs) S₂ (.cons (.val _) (r.grow g₂))) fun r s' hr => ?_
  rcases r with e | (v | _ | _ | _)
  · exact hr.elim
  · exact hr.elim
  · exact hr.elim
  · exact hr.elim
  · obtain ⟨b, τ, ⟨rfl, k, d', τ', rfl, hq⟩, rb, S₃, x₃⟩ := hr
    cases rb
    refine ⟨rfl, .inst C k d', τ', hq, ?_, S₃.drop1.drop1, st.trans (x₃.trans (Drops.step (.more (.more .done))))⟩
    have ex' := (S₃.hold _ (.head _)).1
    obtain ⟨h', t', v', n', ed', rv⟩ := S₃.hold _ (.tail _ (.head _))
    have nd := S₃.nodup
    have a1 := S₃.apart _ (.head _)
    have a2 := S₃.apart _ (.tail _ (.head _))
    have nd1 := List.nodup_cons.mp nd
    have nd2 := List.nodup_cons.mp nd1.2
    refine .inst ex' ed' (fun hm => ?_) (fun hm => ?_) (rv.grow (Drops.grow (.more (.more .done))))
    · rcases List.mem_append.mp hm with q | q
      · exact a1 q
      · exact nd1.1 (.tail _ q)
    · rcases List.mem_append.mp hm with q | q
      · exact a2 q
      · exact nd2.1 q
end
end Mine

namespace Mine
open PySem PySem.W PySem.Calls PyProof.Rows

section
variable {c : Cx} {σ τ ρ : Sig} {X X' : List Addr} {s s₁ s₂ s' : Shared} {it a C : Addr} {target : Expr} {env : Env} {f : Ob → Sig} {K : Frag}

theorem Loop.rest {body : List Stmt} {Kσ : Sig → Prop} {Q : Fl → Sig → Prop} (I : List D → Sig → Prop)
    (hs : ∀ d rest σ, I (d :: rest) σ → Kσ σ ∧ W1 c eqR (assign target env) d σ fun (_ : Unit) σ₁ => WX c body env σ₁ fun fl σ₂ => match fl with
      | .next => I rest σ₂
      | .cont => I rest σ₂
      | .brk => Q .next σ₂
      | .ret d => Q (.ret d) σ₂)
    (he : ∀ σ, I [] σ → Kσ σ ∧ Q .next σ) : ∀ (ds : List D) (σ : Sig), I ds σ → Loop c target body env Kσ ds σ Q
  | [], σ, h => he σ h
  | d :: ds, σ, h => by
    obtain ⟨hK, hw⟩ := hs d ds σ h
    refine ⟨hK, fun X s v S r => wpAny_mono (hw X s v S r) (fun _ s₁ hp => ?_) fun _ _ e => e⟩
    obtain ⟨u, τ, hx, hr, S₁, x₁⟩ := hp
    refine ⟨u, τ, hx.mono fun fl τ₂ h₂ => ?_, hr, S₁, x₁⟩
    cases fl with
    | next => exact Loop.rest I hs he ds τ₂ h₂
    | cont => exact Loop.rest I hs he ds τ₂ h₂
    | brk => exact h₂
    | ret d => exact h₂

theorem As_nil {Q : Unit → Sig → Prop} (h : Q () σ) : Assigns c env [] [] σ Q := h
theorem As_cons {t : Expr} {ts : List Expr} {d : D} {ds : List D} {Q : Unit → Sig → Prop} (h : WA c t env d σ fun _ σ₁ => Assigns c env ts ds σ₁ Q) : Assigns c env (t :: ts) (d :: ds) σ Q := h

/-- {key: value} with one entry -/
theorem E_Dict1 {k v : Expr} {pos : Pos} {Q : D → Sig → Prop} (hs : (evalEachOpt [some k] env).zip ((evalEach [v] env).map fun v => do let x ← v; standAt pos; pure x) = [(some (eval k env), do let x ← eval v env; standAt pos; pure x)])
    (h : ∀ a, WE c k env ((a, .dict []) :: σ) fun d σ₁ => ∃ x, d = .str x ∧ WE c v env σ₁ fun d₁ σ₂ => ∃ τ, σ₂ = (a, .dict []) :: τ ∧ Q (.dct [(x, d₁)]) τ) : WE c (.Dict [some k] [v] pos) env σ Q := fun X s S => by
  refine wpAny_Dict_pairs (knd := strKind c.prog c.w) (pairs := [(eval k env, do let x ← eval v env; standAt pos; pure x)]) hs (by simp) (by simp) ?_
  have hm : (s.heap.objs.size == sysModules) = false := by
    obtain ⟨b₀, o, hle, e⟩ := S.mods
    exact beq_eq_false_iff_ne.mpr (Nat.ne_of_gt (Nat.lt_of_le_of_lt hle (Heap.lt_size (S.keep _ _ e))))
  have S₀ : c.St X ((s.heap.objs.size, .dict []) :: σ) (Mine.pushed s { cls := .type "dict", data := .dict #[] }) := S.put ⟨hm, [], Heap.DictOf.new _, .nil⟩
  refine evalPairs_cons ((h s.heap.objs.size).then S₀ fun kv s₁ d τ₁ h₁ r₁ S₁ x₁ => ?_)
  obtain ⟨x, rfl, h₁⟩ := h₁
  refine wpAny_bind (h₁.then S₁ fun vv s₂ d₁ τ₂ h₂ r₂ S₂ x₂ => ?_)
  obtain ⟨τ, rfl, hq⟩ := h₂
  refine wpAny_bind (wpAny_standAt (wpAny_pure (evalPairs_nil ⟨[(x, vv)], ⟨is_str r₁, rfl, trivial⟩, ?_, ?_⟩)))
  · obtain ⟨_, kvs, e, q⟩ := S₂.hold _ (.head _)
    cases q
    exact e
  · intro h' hd hs'
    have hk : ∀ b o, b ≠ s.heap.objs.size → s₂.heap.get? b = some o → h'.get? b = some o := fun b o hb e => (hs'.2 b hb).trans e
    have H : Hole s.heap.objs.size (.dict []) ((s.heap.objs.size, .dict []) :: τ) fun y => (s.heap.objs.size, y) :: τ := .head
    have st : Step ((s.heap.objs.size, .dict []) :: τ) ((s.heap.objs.size, .dict [(x, d₁)]) :: τ) s₂ { s₂ with heap := h', toks := s₂.toks + [(kv, vv)].length } := .set H rfl hk (Nat.le_add_right _ _)
    have S₃ := S₂.set (s' := { s₂ with heap := h', toks := s₂.toks + [(kv, vv)].length }) (ob' := .dict [(x, d₁)]) H hk (Nat.le_add_right _ _) ⟨hm, [(x, vv)], hd, .cons (r₂.grow (st.grow X)) .nil⟩
    have G : Gone s.heap.objs.size (.dict [(x, d₁)]) ((s.heap.objs.size, .dict [(x, d₁)]) :: τ) τ := .head
    exact ⟨_, τ, hq, G.dct S₃, G.st S₃, Step.put.trans (x₁.trans (x₂.trans (st.trans G.step)))⟩
end
end Mine

namespace Mine
open PySem PySem.W PySem.Calls PyProof.Rows

section
variable {c : Cx} {σ τ ρ : Sig} {X X' : List Addr} {s s₁ s₂ s' : Shared} {it a C : Addr} {target : Expr} {env : Env} {f : Ob → Sig} {K : Frag}

/-! slices -/
noncomputable abbrev WP (c : Cx) (e : Option Expr) (env : Env) (σ : Sig) (Q : D → Sig → Prop) : Prop := W0 c c.DV (evalPart e env) σ Q
theorem P_none {Q : D → Sig → Prop} (h : Q .none σ) : WP c none env σ Q := fun X s S => wpAny_pure (post_here S .none h)
theorem P_some {e : Expr} {Q : D → Sig → Prop} (h : WE c e env σ Q) : WP c (some e) env σ Q := fun X s S => h X s S
inductive PartD : D → Option Int → Prop
  | none : PartD .none none
  | int (i : Int) : PartD (.int i) (some i)
theorem PartD.of {d : D} {o : Option Int} {bad : List Addr} {v : Value} (h : PartD d o) (r : c.DV s bad v d) : IsPart v o := by
  cases h with
  | none => (first | obtain ⟨_, rfl⟩ := DV.iX r | obtain ⟨_, rfl⟩ := DV.sX r | obtain rfl := DV.nX r | obtain rfl := DV.bX r | obtain rfl := DV.vX r | obtain rfl := DVs.zX r | cases r); exact .none
  | int i => (first | obtain ⟨_, rfl⟩ := DV.iX r | obtain ⟨_, rfl⟩ := DV.sX r | obtain rfl := DV.nX r | obtain rfl := DV.bX r | obtain rfl := DV.vX r | obtain rfl := DVs.zX r | cases r); exact .int ..
noncomputable def pickD (ds : List D) (lo hi : Option Int) : List D := (ds.drop (kms_lo lo ds.length)).take (kms_hi hi ds.length - kms_lo lo ds.length)
theorem E_Slice {value : Expr} {lower upper : Option Expr} {p pos : Pos} {Q : D → Sig → Prop} (ht : ∀ o r, letTemporaryGo value o r = pure ())
    (h : WE c value env σ fun d σ₁ => WP c lower env σ₁ fun dl σ₂ => WP c upper env σ₂ fun du σ₃ => ∃ ds lo hi, Seqs σ₃ d ds ∧ ds.length ≤ 1000000 ∧ PartD dl lo ∧ PartD du hi ∧ Q (.lst (pickD ds lo hi)) σ₃) :
    WE c (.Subscript value (.Slice lower upper none p) pos) env σ Q := fun X s S =>
  wpAny_Subscript_list_slice (h.then S fun v s₁ d τ₁ h₁ r₁ S₁ x₁ => h₁.then S₁ fun vl s₂ dl τ₂ h₂ r₂ S₂ x₂ => h₂.then S₂ fun vu s₃ du τ₃ h₃ r₃ S₃ x₃ => by
    obtain ⟨ds, lo, hi, hd, hz, pl, pu, hq⟩ := h₃
    obtain ⟨b, vs, n, rfl, e, q⟩ := hd.at S₃ (r₁.grow ((x₂.trans x₃).grow X))
    have z := q.length
    refine ⟨b, vs.toArray, lo, hi, rfl, isList_lst e, by rw [List.size_toArray, sizeLine_eq]; omega, pl.of (r₂.grow (x₃.grow X)), pu.of r₃, ?_⟩
    rw [kms_pick_eq]
    have hp : c.DVs s₃ (X ++ adrs τ₃) (kms_pick vs lo hi) (pickD ds lo hi) := by
      unfold kms_pick pickD
      rw [z]
      exact q.drop.take
    have S₄ := S₃.pushed (o := { cls := .type "slice", data := .fields #[vl, vu, .none] })
    have hn : s₃.heap.objs.size + 1 = (Mine.pushed s₃ { cls := .type "slice", data := .fields #[vl, vu, .none] }).heap.objs.size := (Heap.size_push ..).symm
    rw [hn]
    exact ⟨.lst _, τ₃, hq, new_lst S₄ (hp.grow grow_push), S₄.pushed, x₁.trans (x₂.trans (x₃.trans (Step.pushed.trans .pushed)))⟩) ht

/-! data that PyData tells -/
mutual
inductive Py : D → PyData → Prop
  | int (i : Int) : Py (.int i) (.int i)
  | str (x : Str) : Py (.str x) (.str x)
  | sg (x : Str) : Py (.sg x) (.str x)
  | tup {ds : List D} {ps : List PyData} : Pys ds ps → Py (.tup ds) (.tuple ps)
inductive Pys : List D → List PyData → Prop
  | nil : Pys [] []
  | cons {d : D} {p : PyData} {ds : List D} {ps : List PyData} : Py d p → Pys ds ps → Pys (d :: ds) (p :: ps)
end
mutual
theorem Py.reads {bad : List Addr} : ∀ {d : D} {p : PyData} {v : Value}, Py d p → c.DV s bad v d → ∃ as, Reads s.heap v p as
  | _, _, _, .int i, .int _ t => ⟨_, .int i t⟩
  | _, _, _, .str x, .str _ t => ⟨_, .str x t⟩
  | _, _, _, .sg x, .sg _ _ => ⟨_, .str x _⟩
  | _, _, _, .tup h, .tup e _ q => let ⟨as, r⟩ := Pys.reads h q; ⟨_, .tuple e rfl rfl (by simpa using r)⟩
theorem Pys.reads {bad : List Addr} : ∀ {ds : List D} {ps : List PyData} {vs : List Value}, Pys ds ps → c.DVs s bad vs ds → ∃ as, ReadsAll s.heap vs ps as
  | _, _, _, .nil, .nil => ⟨_, .nil⟩
  | _, _, _, .cons h k, .cons r q => let ⟨as, r'⟩ := Py.reads h r; let ⟨bs, q'⟩ := Pys.reads k q; ⟨_, .cons r' q'⟩
end
theorem eq_l {d₁ d₂ : D} {ds es : List D} {ps qs : List PyData} {Q : D → Sig → Prop} (hu : c.A.units + 64 < cLine) (h₁ : Seqs σ d₁ ds) (p₁ : Pys ds ps) (c₁ : PySem.SeqAt.shaped (.list ps) = true) (h₂ : Seqs σ d₂ es) (p₂ : Pys es qs) (c₂ : PySem.SeqAt.shaped (.list qs) = true)
    (h : Q (.bool (PyData.eqvAll ps qs)) σ) : W2 c c.DV (compareOp .Eq) d₁ d₂ σ Q := fun X s _ _ S r₁ r₂ => by
  obtain ⟨a, vs, n, rfl, ea, ra⟩ := h₁.at S r₁
  obtain ⟨b, ws, m, rfl, eb, rb⟩ := h₂.at S r₂
  obtain ⟨as, q₁⟩ := p₁.reads ra
  obtain ⟨bs, q₂⟩ := p₂.reads rb
  exact eq_dataH (da := .list ps) (db := .list qs) (.list ea rfl rfl (by simpa using q₁)) (.list eb rfl rfl (by simpa using q₂)) c₁ c₂ hu (post_here S (by simp only [PyData.eqv]; exact .bool _) h)
theorem ne_l {d₁ d₂ : D} {ds es : List D} {ps qs : List PyData} {Q : D → Sig → Prop} (hu : c.A.units + 64 < cLine) (h₁ : Seqs σ d₁ ds) (p₁ : Pys ds ps) (c₁ : PySem.SeqAt.shaped (.list ps) = true) (h₂ : Seqs σ d₂ es) (p₂ : Pys es qs) (c₂ : PySem.SeqAt.shaped (.list qs) = true)
    (h : Q (.bool (!PyData.eqvAll ps qs)) σ) : W2 c c.DV (compareOp .NotEq) d₁ d₂ σ Q := fun X s _ _ S r₁ r₂ => by
  obtain ⟨a, vs, n, rfl, ea, ra⟩ := h₁.at S r₁
  obtain ⟨b, ws, m, rfl, eb, rb⟩ := h₂.at S r₂
  obtain ⟨as, q₁⟩ := p₁.reads ra
  obtain ⟨bs, q₂⟩ := p₂.reads rb
  exact ne_dataH (da := .list ps) (db := .list qs) (.list ea rfl rfl (by simpa using q₁)) (.list eb rfl rfl (by simpa using q₂)) c₁ c₂ hu (post_here S (by simp only [PyData.eqv]; exact .bool _) h)

/-! dicts of ints -/
theorem keq_hits {A : Around} {bad : List Addr} {tk : List (Str × Int)} {kb : List (Str × Value)} (rb : DKs c.prog c.w s bad kb (tk.map fun p => (p.1, .int p.2))) : ∀ {tl : List (Str × Int)} {ka : List (Str × Value)},
    DKs c.prog c.w s bad ka (tl.map fun p => (p.1, .int p.2)) → KeqHits A s kb ka (tl.all fun p => tk.lookup p.1 == some p.2)
  | [], _, h => by cases h; exact .nil
  | (k, n) :: tl, _, h => by
    cases h with
    | cons x r =>
      cases x with
      | int _ t =>
        have ih := keq_hits (A := A) rb r
        have look : ∀ {l : List (Str × Int)}, (l.map fun p => (p.1, D.int p.2)).lookup k = (l.lookup k).map .int := by
          intro l
          induction l with
          | nil => rfl
          | cons p r ih =>
            show ((p.1, D.int p.2) :: _).lookup k = _
            rw [List.lookup_cons, List.lookup_cons, ih]
            cases k == p.1 <;> rfl
        rw [List.all_cons]
        cases hk : tk.lookup k with
        | none =>
          have := rb.valueAt_none (k := k) (by rw [look, hk]; rfl)
          show KeqHits A s kb ((k, .int n t) :: _) (false && _)
          rw [Bool.false_and]
          exact .miss this
        | some m =>
          obtain ⟨y, hy, ry⟩ := rb.valueAt (k := k) (d := .int m) (by rw [look, hk]; rfl)
          cases ry with
          | int _ u =>
            have e : (m == n) = (n == m) := Bool.eq_iff_iff.mpr (by rw [beq_iff_eq, beq_iff_eq]; exact eq_comm)
            show KeqHits A s kb ((k, .int n t) :: _) ((m == n) && _)
            rw [e]
            exact .hit hy (PySem.SeqAt.EqAt.int_int n t m u) ih
theorem eq_d {tl tk : List (Str × Int)} {Q : D → Sig → Prop} (hu : c.A.units < cLine) (h : Q (.bool (tl.length == tk.length && tl.all fun p => tk.lookup p.1 == some p.2)) σ) :
    W2 c c.DV (compareOp .Eq) (.dct (tl.map fun p => (p.1, .int p.2))) (.dct (tk.map fun p => (p.1, .int p.2))) σ Q := fun X s _ _ S r₁ r₂ => by
  obtain ⟨_, _, rfl, m₁, x₁, n₁, q₁⟩ := DV.dX r₁
  obtain ⟨_, _, rfl, m₂, x₂, n₂, q₂⟩ := DV.dX r₂
  refine keq_eq m₁ m₂ x₁ x₂ hu (fun _ => keq_hits q₂ q₁) ?_
  have l1 := q₁.length
  have l2 := q₂.length
  rw [List.length_map] at l1 l2
  rw [l1, l2]
  exact post_here S (.bool _) h
end
end Mine

namespace Mine
open PySem PySem.W PySem.Calls PyProof.Rows

section
variable {c : Cx} {σ τ ρ : Sig} {X X' : List Addr} {s s₁ s₂ s' : Shared} {it a C : Addr} {target : Expr} {env : Env} {f : Ob → Sig} {K : Frag}

theorem compLoopD_any {kx vx iter : Expr} {scope : Scope} {pos : Pos} {itv : Value} {acc : Addr} {R : Result → Shared → Prop} (I : Nat → Shared → Prop)
    (turn : ∀ n s, I n s → wpAny c.M c.A (pyNext itv) (fun r s₁ => match r with
      | none => R (.ok .next) s₁
      | some v => wpAny c.M c.A (letOwnedTupleGo target itv v) (fun _ s₀ => wpAny c.M c.A (assign target env v) (fun _ s₂ =>
          wpAny c.M c.A (eval kx env) (fun kv s₃ => wpAny c.M c.A (eval vx env) (fun vv s₄ => wpAny c.M c.A (dictSet acc kv vv) (fun _ s₅ => ∃ m, m < n ∧ I m s₅) noE s₄) noE s₃) noE s₂) noE s₀) noE s₁) noE s)
    (n : Nat) (h : I n s) : codeAny c.M c.A (.compLoop (.DictComp kx vx [⟨target, iter, [], 0⟩] scope pos) 0 itv (.ref acc) env) R s := by
  refine codeAny_loop rfl I (fun n s hI => ?_) n h
  show wpAny _ _ ((compTurn (.DictComp kx vx [⟨target, iter, [], 0⟩] scope pos) 0 itv (.ref acc) env).onRaise (fun x => do noteFrame x env; theTreesLotGoes x)) _ _ s
  refine wpAny_noted ?_
  rw [compTurn_dict]
  refine wpAny_bind (wpAny_standAt (wpAny_bind (noE_le (wpAny_mono (turn n s hI) (fun r s₁ h₁ => ?_) fun _ _ e => e))))
  cases r with
  | none => exact wpAny_pure h₁
  | some v =>
    refine wpAny_bind (noE_le (wpAny_mono h₁ (fun _ s₀ h₀ => ?_) fun _ _ e => e))
    refine wpAny_bind (noE_le (wpAny_mono h₀ (fun _ s₂ h₂ => ?_) fun _ _ e => e))
    refine wpAny_bind (wpAny_tests_nil ?_)
    exact wpAny_bind (wpAny_bind (noE_le (wpAny_mono h₂ (fun kv s₃ h₃ => wpAny_bind (wpAny_holding (noE_le (wpAny_mono h₃ (fun vv s₄ h₄ => wpAny_bind (wpAny_standAt (wpAny_holding (noE_le (wpAny_mono h₄ (fun _ s₅ h₅ => wpAny_pure ⟨rfl, h₅⟩) fun _ _ e => e))))) fun _ _ e => e)))) fun _ _ e => e)))

/-- one turn of a dict comprehension -/
noncomputable def CompItemD (c : Cx) (target kx vx : Expr) (env : Env) (names : List Str) (σ : Sig) (d : D) (p : Str × D) : Prop :=
  ∀ vals : List (Option D), vals.length = names.length → W1 c eqR (assign target env) d ((env.locals, .ns names vals) :: σ) fun (_ : Unit) τ => ∃ vals', τ = (env.locals, .ns names vals') :: σ ∧ vals'.length = names.length ∧
    WE c kx env τ fun k τ' => τ' = τ ∧ k = .str p.1 ∧ WE c vx env τ fun y τ'' => τ'' = τ ∧ y = p.2
noncomputable def gather (F : D → Str × D) (ds : List D) : List (Str × D) := ds.foldl (fun es d => putK es (F d).1 (F d).2) []
theorem gather_succ {F : D → Str × D} {ds : List D} {i : Nat} {d : D} (h : ds[i]? = some d) : gather F (ds.take (i + 1)) = putK (gather F (ds.take i)) (F d).1 (F d).2 := by
  unfold gather
  rw [List.take_add_one, h, Option.toList_some, List.foldl_append]; rfl
theorem putK_len (es : List (Str × D)) (k : Str) (d : D) : (putK es k d).length ≤ es.length + 1 := by
  unfold putK
  split
  · rw [List.length_map]; exact Nat.le_succ _
  · rw [List.length_append]; exact Nat.le_refl _
theorem gather_len {F : D → Str × D} : ∀ {ds : List D} {i : Nat}, i ≤ ds.length → (gather F (ds.take i)).length ≤ i
  | _, 0, _ => by rw [List.take_zero]; exact Nat.le_refl _
  | ds, i + 1, h => by
    have e : ds[i]? = some ds[i] := by simp
    rw [gather_succ e]
    exact Nat.le_trans (putK_len ..) (Nat.succ_le_succ (gather_len (Nat.le_of_succ_le h)))

theorem compDict_core {kx vx iter : Expr} {scope : Scope} {cl : List (Str × Addr)} {pos : Pos} {names : List Str} {Kσ : Sig → Prop} {ds : List D} {F : D → Str × D} {d : D} {v : Value}
    (hcell : ∀ y ∈ scope.names, y.2 ≠ .cell) (hkind : scope.kind = .function) (hnd : names.Nodup) (hsz : ds.length ≤ sizeLine)
    (src : Src c target d σ Kσ ds) (hK : ∀ p, Kσ (p :: σ)) (items : ∀ C, ∀ d ∈ ds, CompItemD c target kx vx (compEnvC scope cl C env) names σ d (F d)) (S : c.St X σ s) (r : c.DV s (X ++ adrs σ) v d) :
    wpAny c.M c.A (pyIter v) (fun itv s₂ => wpAny c.M c.A newDict (fun acc s₃ => wpAny c.M c.A (newFunctionEnv scope env.globals cl [] env.qual none .none (some env)) (fun cenv s₄ =>
      codeAny c.M c.A (.compStart (.DictComp kx vx [⟨target, iter, [], 0⟩] scope pos) 0 itv acc { cenv with scope := relabel scope env }) (fun r s' => match r with | .ok _ => CompEnd c X σ s (.dct (gather F ds)) acc cenv.locals s' | .error _ => False) s₄) noE s₃) noE s₂) noE s := by
  refine wpAny_mono (src X s v S r) (fun itv s₂ hr => ?_) fun _ _ e => e
  obtain ⟨it, I, rfl, hn, hI, ok, hr, hk, ht⟩ := hr
  have S₂ := S.guard hk ht hn (ok.has _ _ hI)
  refine wpAny_newObj_type (wpAny_newFunctionEnv hcell (by intro y hy; simp at hy) (fun h₁ hns hsb => ?_) hkind)
  dsimp only at hns hsb ⊢
  have hnew : (s₂.heap.push { cls := .type "dict", dict := none, data := .dict #[] }).DictOf (strKind c.prog c.w) s₂.heap.objs.size [] := Heap.DictOf.new s₂.heap
  have hmod : (s₂.heap.objs.size == sysModules) = false := by
    obtain ⟨b₀, o, hle, e⟩ := S.mods
    exact beq_eq_false_iff_ne.mpr (Nat.ne_of_gt (Nat.lt_of_le_of_lt hle (Heap.lt_size (hk _ _ (S.keep _ _ e)))))
  generalize hacc : s₂.heap.objs.size = acc at hns hsb hnew hmod ⊢
  generalize hs₃ : s₂.heap.push { cls := .type "dict", dict := none, data := .dict #[] } = H₃ at hns hsb hnew ⊢
  generalize hC : H₃.objs.size = C at hns hsb ⊢
  have k23 : ∀ b o, s₂.heap.get? b = some o → H₃.get? b = some o := fun b o e => by rw [← hs₃]; exact Heap.get?_push_of_some _ e
  have a₃ : ∃ o, H₃.get? acc = some o := by obtain ⟨o, _, _, ho, _⟩ := hnew; exact ⟨o, ho⟩
  have aC : acc ≠ C := by rw [← hC]; obtain ⟨o, ho⟩ := a₃; exact Nat.ne_of_lt (Heap.lt_size ho)
  have nacc : s₂.heap.get? acc = none := by rw [← hacc]; exact get_size
  have k34 : ∀ b o, H₃.get? b = some o → h₁.get? b = some o := fun b o e => hsb.extBut b o (by rw [← hC]; exact Nat.ne_of_lt (Heap.lt_size e)) (Heap.get?_push_of_some _ e)
  have S₃ : c.St (acc :: it :: X) σ { s₂ with heap := H₃ } := S₂.guard k23 (Nat.le_refl _) nacc a₃
  have nC : H₃.get? C = none := by rw [← hC]; exact get_size
  have S₄ : c.St (acc :: it :: X) ((C, .ns names (List.replicate names.length none)) :: σ) { s₂ with heap := h₁ } := by
    refine S₃.push k34 (Nat.le_refl _) nC ⟨_, hns, hnd, List.length_replicate, fun i y d e1 e2 => ?_⟩
    have : d = none := by
      obtain ⟨_, e⟩ := List.getElem?_eq_some_iff.mp e2
      rw [List.getElem_replicate] at e; exact e.symm
    subst this
    exact .none
  have nit : c.B.get? it = none := by
    cases q : c.B.get? it with
    | none => rfl
    | some o => rw [S.keep _ _ q] at hn; cases hn
  have nacc₀ : s.heap.get? acc = none := by
    cases q : s.heap.get? acc with
    | none => rfl
    | some o => rw [hk _ _ q] at nacc; cases nacc
  have naccB : c.B.get? acc = none := by
    cases q : c.B.get? acc with
    | none => rfl
    | some o => rw [S.keep _ _ q] at nacc₀; cases nacc₀
  have nC₀ : s.heap.get? C = none := by
    cases q : s.heap.get? C with
    | none => rfl
    | some o => rw [k23 _ _ (hk _ _ q)] at nC; cases nC
  have hitacc : it ≠ acc := fun q => by obtain ⟨o, e⟩ := ok.has _ _ hI; rw [q, nacc] at e; cases e
  have hitC : it ≠ C := fun q => by obtain ⟨o, e⟩ := ok.has _ _ hI; rw [k23 _ _ (q ▸ e)] at nC; cases nC
  have notX : ∀ b, s.heap.get? b = none → b ∉ X := fun b hb hm => by obtain ⟨o, e⟩ := S.xold b hm; rw [hb] at e; cases e
  have notσ : ∀ b, s.heap.get? b = none → b ∉ adrs σ := fun b hb hm => by obtain ⟨o, e⟩ := S.has hm; rw [hb] at e; cases e
  have st₄ : Step σ ((C, .ns names (List.replicate names.length none)) :: σ) s { s₂ with heap := h₁ } :=
    ⟨by rw [hr], fun b o hb e => k34 _ _ (k23 _ _ (hk _ _ e)), fun a ha => by rcases List.mem_cons.mp ha with rfl | ha; exact .inr nC₀; exact .inl ha, ht⟩
  have keepD : ∀ {h h' : Heap} {kvs : List (Str × Value)}, h.DictOf (strKind c.prog c.w) acc kvs → (∀ o, h.get? acc = some o → h'.get? acc = some o) → h'.DictOf (strKind c.prog c.w) acc kvs := fun x e => by
    obtain ⟨o, ho, hx⟩ := dictAt (h' := _) x
    exact hx (e _ ho)
  have loop : codeAny c.M c.A (.compLoop (.DictComp kx vx [⟨target, iter, [], 0⟩] scope pos) 0 (.ref it) (.ref acc) (compEnvC scope cl C env)) (fun r s' => match r with | .ok _ => CompEnd c X σ s (.dct (gather F ds)) (.ref acc) C s' | .error _ => False) { s₂ with heap := h₁ } := by
    refine compLoopD_any (fun n s' => ∃ i vals kvs, n = ds.length - i ∧ i ≤ ds.length ∧ vals.length = names.length ∧ s'.heap.DictOf (strKind c.prog c.w) acc kvs ∧ DKs c.prog c.w s' ((acc :: it :: X) ++ adrs ((C, .ns names vals) :: σ)) kvs (gather F (ds.take i)) ∧
      c.St (acc :: it :: X) ((C, .ns names vals) :: σ) s' ∧ I i s'.heap ∧ Step σ ((C, .ns names vals) :: σ) s s') ?_ ds.length
      ⟨0, _, [], rfl, Nat.zero_le _, List.length_replicate, keepD hnew fun o e => k34 _ _ e, by rw [List.take_zero]; exact .nil, S₄, ok.stable _ _ _ hI fun o e => k34 _ _ (k23 _ _ e), st₄⟩
    rintro n s' ⟨i, vals, kvs, rfl, hi, hvl, ha, hvs, S', hI', x'⟩
    have gr : Grow s (X ++ adrs σ) s' ((acc :: it :: X) ++ adrs ((C, .ns names vals) :: σ)) := by
      have g := x'.grow X
      refine ⟨g.keep, fun b o e hb hm => ?_, g.toks⟩
      rcases List.mem_cons.mp hm with q | hm
      · rw [q, nacc₀] at e; cases e
      · rcases List.mem_cons.mp hm with q | hm
        · rw [q, hn] at e; cases e
        · exact g.bad b o e hb hm
    rcases Nat.lt_or_ge i ds.length with hlt | hge
    · have hdi : ds[i]? = some ds[i] := by simp [hlt]
      refine wpAny_mono (ok.item (acc :: it :: X) _ s' i ds[i] gr (hK _) S' hI' hdi) (fun r s₃ hr => ?_) fun _ _ e => e
      obtain ⟨v', rfl, hg⟩ := hr
      refine wpAny_mono hg (fun _ s₅ h₅ => ?_) fun _ _ e => e
      obtain ⟨T, hI₅, rv⟩ := h₅
      have S₅ := S'.turned (.tail _ (.head _)) T (ok.has _ _ hI₅) nit
      have x₅ := x'.tick T hn
      have a₅ : s₅.heap.DictOf (strKind c.prog c.w) acc kvs := keepD ha fun o e => T.ext _ _ (Ne.symm hitacc) e
      have d₅ := DKs.grow (T.grow (List.mem_append.mpr (.inl (.tail _ (.head _))))) hvs
      refine (items C ds[i] (List.getElem_mem hlt) vals hvl (acc :: it :: X) s₅ v' S₅ (rv (.tail _ (.head _)))) |> fun hw => wpAny_mono hw (fun _ s₆ h₆ => ?_) fun _ _ e => e
      obtain ⟨_, τ₆, ⟨vals', rfl, hvl', hkx⟩, _, S₆, x₆⟩ := h₆
      refine wpAny_mono (hkx (acc :: it :: X) s₆ S₆) (fun kv s₇ h₇ => ?_) fun _ _ e => e
      obtain ⟨k', τ₇, ⟨rfl, rfl, hvx⟩, r₇, S₇, x₇⟩ := h₇
      refine wpAny_mono (hvx (acc :: it :: X) s₇ S₇) (fun vv s₈ h₈ => ?_) fun _ _ e => e
      obtain ⟨y', τ₈, ⟨rfl, rfl⟩, r₈, S₈, x₈⟩ := h₈
      have accnot : acc ∉ adrs ((C, .ns names vals') :: σ) := fun hm => S₇.apart _ hm (.head _)
      have itnot : it ∉ adrs ((C, .ns names vals') :: σ) := fun hm => S₇.apart _ hm (.tail _ (.head _))
      have x58 := x₆.trans (x₇.trans x₈)
      have a₈ : s₈.heap.DictOf (strKind c.prog c.w) acc kvs := keepD a₅ fun o e => x58.ext _ _ accnot e
      have d₈ := DKs.grow (x58.grow (acc :: it :: X)) d₅
      have I₈ : I (i + 1) s₈.heap := ok.stable _ _ _ hI₅ fun o e => x58.ext _ o itnot e
      have st₈ := x₅.trans x58
      have hlen : kvs.length ≤ sizeLine := by
        rw [d₈.length]
        exact Nat.le_trans (gather_len hi) (Nat.le_trans hi hsz)
      refine wpAny_dictSet_pairs (hsz := hlen) (is_str r₇) a₈ fun h' hp hs' => ?_
      have T₉ : Tick acc s₈ { s₈ with heap := h', toks := s₈.toks + 1 } := Tick.same hs' (Nat.le_succ _)
      have g₉ := T₉.grow (bad := (acc :: it :: X) ++ adrs ((C, .ns names vals') :: σ)) (.head _)
      refine ⟨ds.length - (i + 1), by omega, i + 1, vals', _, rfl, hlt, hvl', hp, ?_, S₈.turned (.head _) T₉ (by obtain ⟨o, _, _, ho, _⟩ := hp; exact ⟨o, ho⟩) naccB, ok.stable _ _ _ I₈ fun o e => T₉.ext _ o hitacc e, st₈.tick T₉ nacc₀⟩
      rw [gather_succ hdi]
      exact (DKs.grow g₉ d₈).put (r₈.grow g₉)
    · have he : i = ds.length := Nat.le_antisymm hi hge
      subst he
      refine wpAny_mono (ok.done (acc :: it :: X) _ s' gr (hK _) S' hI') (fun r s₃ hr => ?_) fun _ _ e => e
      obtain ⟨rfl, T⟩ := hr
      obtain ⟨m, hnC, _⟩ := S'.hold _ (.head _)
      have S'' := (show c.St (acc :: it :: X) ([(C, .ns names vals)] ++ σ) s' from S').lend
      obtain ⟨S₉, g₉⟩ := (show c.St (adrs [(C, .ns names vals)] ++ (acc :: it :: X)) (([] : Sig) ++ σ) s' from S'').shed (X := C :: X) (s₁ := s₃) (T := [it]) (fun b o hb e => T.ext b o (fun q => hb (by simp [q])) e) T.toks
        (fun b hb => by simp at hb; simp [hb]) (fun b hb => by simp at hb; rw [hb]; exact notσ _ hn) (fun b hb => by simp at hb; rw [hb]; simp [hitC, notX _ hn]) (fun b hb => by simp at hb; rw [hb]; exact nit) (fun b hb => by simp at hb ⊢; rcases hb with h | h <;> simp [h])
      refine ⟨m, hnC.at' fun o e => T.ext _ o (Ne.symm hitC) e, S₉, ?_, ⟨(x'.tick T hn).rest, (x'.tick T hn).ext, fun a ha => .inl ha, (x'.tick T hn).toks⟩, nC₀⟩
      refine .dct hmod (keepD ha fun o e => T.ext _ _ (Ne.symm hitacc) e) (by simp [aC, notX _ nacc₀]; simpa using notσ _ nacc₀) ?_
      rw [List.take_length] at hvs
      refine DKs.grow g₉ (DKs.grow (Grow.refl fun b hm => ?_) hvs)
      simp at hm ⊢
      rcases hm with h | h | h | h | h <;> simp [h]
  refine codeAny_compStart_dict loop (noE_le (ok.self _ _ ?_ loop))
  exact ok.stable _ _ _ hI fun o e => k34 _ _ (k23 _ _ e)

theorem E_DictComp {kx vx iter : Expr} {scope : Scope} {pos : Pos} {Q : D → Sig → Prop} (names : List Str) (cl : List (Str × Addr)) (ok : CompOk names scope cl env) (hs : ∀ x, foldedSetIterable iter env x = pure x)
    (h : WE c iter env σ fun d σ₁ => ∃ (Kσ : Sig → Prop) (ds : List D) (F : D → Str × D), ds.length ≤ sizeLine ∧ Src c target d σ₁ Kσ ds ∧ (∀ p, Kσ (p :: σ₁)) ∧ (∀ C, ∀ d ∈ ds, CompItemD c target kx vx (compEnvC scope cl C env) names σ₁ d (F d)) ∧ Q (.dct (gather F ds)) σ₁) :
    WE c (.DictComp kx vx [⟨target, iter, [], 0⟩] scope pos) env σ Q := fun X s S => by
  rw [arm_eval_DictComp]
  refine wpAny_comprehension_free (use := none) rfl hs ok.clos ok.kind ok.look (h.then S fun v s₁ d τ₁ h₁ r₁ S₁ x₁ => ?_)
  obtain ⟨Kσ, ds, F, hz, src, hK, items, hq⟩ := h₁
  refine wpAny_mono (compDict_core (iter := iter) (pos := pos) ok.cell ok.kind ok.nodup hz src hK items S₁ r₁) (fun itv s₂ h₂ => wpAny_mono h₂ (fun acc s₃ h₃ => wpAny_mono h₃ (fun cenv s₄ h₄ => codeAny_mono h₄ fun r s' hr => ?_) fun _ _ e => e) fun _ _ e => e) fun _ _ e => e
  cases r with
  | error e => exact hr.elim
  | ok f =>
    obtain ⟨m, hn, hc⟩ := hr.close S₁ hq
    exact ⟨m, hn, fun h' hs' => (hc h' hs').after x₁⟩
end
end Mine

namespace Mine
open PySem PySem.W PySem.Calls PyProof.Rows

section
variable {c : Cx} {σ τ ρ : Sig} {X X' : List Addr} {s s₁ s₂ s' : Shared} {it a C : Addr} {target : Expr} {env : Env} {f : Ob → Sig} {K : Frag}

theorem range_t' {n : Nat} {i : Int} {Q : D → Sig → Prop} (hi : i = n) (h : Q (.rng n) σ) : WL c c.DV (fun vs => call (.type "range") vs) [.int i] σ Q := by
  subst hi; exact range_t h
theorem sub_t' {value slice : Expr} {ds : List D} {k : Nat} {i : Int} {d : D} {Q : D → Sig → Prop} (hs : plainSub slice) (hi : i = k) (hk : (k : Int) < 2 ^ 63) (hx : ds[k]? = some d) (h : Q d σ) : W2 c c.DV (subscriptTail value slice) (.tup ds) (.int i) σ Q := by
  subst hi; exact sub_t hs hk hx h
/-- an object is asked for no more -/
theorem E_gone {e : Expr} {Q : D → Sig → Prop} (h : WE c e env σ fun d σ₁ => ∃ a ob σ₂, Gone a ob σ₁ σ₂ ∧ Q d σ₂) : WE c e env σ Q := fun X s S =>
  h.then S fun v s₁ d τ₁ ⟨a, ob, σ₂, H, hq⟩ r S₁ x₁ => ⟨d, σ₂, hq, r.grow H.grow, H.st S₁, x₁.trans H.step⟩
theorem sz_ok {n : Nat} (h : Nat.ble n 1000 = true) : n ≤ sizeLine := Nat.le_trans (Nat.le_of_ble_eq_true h) (by rw [sizeLine_eq]; decide)
/-- what a comprehension without tests asks of its turns -/
noncomputable abbrev MapItems (c : Cx) (target elt iter : Expr) (scope : Scope) (cl : List (Str × Addr)) (env : Env) (names : List Str) (d : D) (σ : Sig) (Q : List D → Sig → Prop) : Prop :=
  ∃ (Kσ : Sig → Prop) (ds : List D) (F : D → D), ds.length ≤ sizeLine ∧ Src c target d σ Kσ ds ∧ (∀ p, Kσ (p :: σ)) ∧
    (∀ C, ∀ d ∈ ds, ∀ vals : List (Option D), vals.length = names.length → WA c target (cmpEnv scope cl C env) d ((C, .ns names vals) :: σ) fun _ τ => ∃ vals', τ = (C, .ns names vals') :: σ ∧ vals'.length = names.length ∧
      WE c elt (cmpEnv scope cl C env) τ fun y τ' => τ' = τ ∧ y = F d) ∧ Q (ds.map F) σ
/-- and one with one test -/
noncomputable abbrev FilterItems (c : Cx) (target elt t iter : Expr) (scope : Scope) (cl : List (Str × Addr)) (env : Env) (names : List Str) (d : D) (σ : Sig) (Q : List D → Sig → Prop) : Prop :=
  ∃ (Kσ : Sig → Prop) (ds : List D) (p : D → Bool) (F : D → D), ds.length ≤ sizeLine ∧ Src c target d σ Kσ ds ∧ (∀ q, Kσ (q :: σ)) ∧
    (∀ C, ∀ d ∈ ds, ∀ vals : List (Option D), vals.length = names.length → WA c target (cmpEnv scope cl C env) d ((C, .ns names vals) :: σ) fun _ τ => ∃ vals', τ = (C, .ns names vals') :: σ ∧ vals'.length = names.length ∧
      WT c t (cmpEnv scope cl C env) τ fun b τ' => τ' = τ ∧ b = p d ∧ (p d = true → WE c elt (cmpEnv scope cl C env) τ fun y τ'' => τ'' = τ ∧ y = F d)) ∧ Q ((ds.filter p).map F) σ
theorem filterMap_some {F : D → D} (ds : List D) : ds.filterMap (fun d => some (F d)) = ds.map F := by induction ds with
  | nil => rfl
  | cons d ds ih => rw [List.filterMap_cons, List.map_cons, ih]
theorem filterMap_if {p : D → Bool} {F : D → D} (ds : List D) : ds.filterMap (fun d => if p d = true then some (F d) else none) = (ds.filter p).map F := by induction ds with
  | nil => rfl
  | cons d ds ih =>
    rw [List.filterMap_cons, List.filter_cons]
    cases h : p d with
    | true => simp only [if_true, List.map_cons, ih]
    | false => simp only [Bool.false_eq_true, if_false, ih]

theorem E_MapC {elt iter : Expr} {scope : Scope} {pos : Pos} {Q : D → Sig → Prop} (names : List Str) (cl : List (Str × Addr)) (ok : CompOk names scope cl env) (hs : ∀ x, foldedSetIterable iter env x = pure x)
    (h : WE c iter env σ fun d σ₁ => MapItems c target elt iter scope cl env names d σ₁ fun ds σ₂ => Q (.lst ds) σ₂) : WE c (.ListComp elt [⟨target, iter, [], 0⟩] scope pos) env σ Q := by
  refine E_ListComp names cl ok hs (h.mono fun d σ₁ ⟨Kσ, ds, F, hz, src, hK, items, hq⟩ => ⟨Kσ, ds, fun d => some (F d), hz, src, hK, fun C d hd vals hv => ?_, by rw [filterMap_some]; exact hq⟩)
  intro X s v S r
  refine wpAny_mono (items C d hd vals hv X s v S r) (fun _ s₁ h₁ => ?_) fun _ _ e => e
  obtain ⟨u, τ, ⟨vals', e1, e2, hel⟩, hr, S₁, x₁⟩ := h₁
  exact ⟨u, τ, ⟨vals', e1, e2, Tests_nil ⟨rfl, rfl, fun y hy => by cases hy; exact hel⟩⟩, hr, S₁, x₁⟩
theorem S_AssignMapC {x : Str} {px spos : Pos} {elt iter : Expr} {scope : Scope} {pos : Pos} {Q : Fl → Sig → Prop} (names : List Str) (cl : List (Str × Addr)) (ok : CompOk names scope cl env) (hs : ∀ x, foldedSetIterable iter env x = pure x)
    (hsw : swapsWith (.ListComp elt [⟨target, iter, [], 0⟩] scope pos) (some (.Name x px)) spos.line env = pure true)
    (h : WE c iter env σ fun d σ₁ => MapItems c target elt iter scope cl env names d σ₁ fun ds σ₂ => WSt c x env (.lst ds) σ₂ fun _ σ₃ => Q .next σ₃) : WS c (.Assign [.Name x px] (.ListComp elt [⟨target, iter, [], 0⟩] scope pos) spos) env σ Q := by
  refine S_AssignComp names cl ok hs hsw (h.mono fun d σ₁ ⟨Kσ, ds, F, hz, src, hK, items, hq⟩ => ⟨Kσ, ds, fun d => some (F d), hz, src, hK, fun C d hd vals hv => ?_, by rw [filterMap_some]; exact hq⟩)
  intro X s v S r
  refine wpAny_mono (items C d hd vals hv X s v S r) (fun _ s₁ h₁ => ?_) fun _ _ e => e
  obtain ⟨u, τ, ⟨vals', e1, e2, hel⟩, hr, S₁, x₁⟩ := h₁
  exact ⟨u, τ, ⟨vals', e1, e2, Tests_nil ⟨rfl, rfl, fun y hy => by cases hy; exact hel⟩⟩, hr, S₁, x₁⟩
theorem E_FilterC {elt t iter : Expr} {scope : Scope} {pos : Pos} {Q : D → Sig → Prop} (names : List Str) (cl : List (Str × Addr)) (ok : CompOk names scope cl env) (hs : ∀ x, foldedSetIterable iter env x = pure x)
    (h : WE c iter env σ fun d σ₁ => FilterItems c target elt t iter scope cl env names d σ₁ fun ds σ₂ => Q (.lst ds) σ₂) : WE c (.ListComp elt [⟨target, iter, [t], 0⟩] scope pos) env σ Q := by
  refine E_ListComp names cl ok hs (h.mono fun d σ₁ ⟨Kσ, ds, p, F, hz, src, hK, items, hq⟩ => ⟨Kσ, ds, fun d => if p d = true then some (F d) else none, hz, src, hK, fun C d hd vals hv => ?_, by rw [filterMap_if]; exact hq⟩)
  intro X s v S r
  refine wpAny_mono (items C d hd vals hv X s v S r) (fun _ s₁ h₁ => ?_) fun _ _ e => e
  obtain ⟨u, τ, ⟨vals', e1, e2, hel⟩, hr, S₁, x₁⟩ := h₁
  refine ⟨u, τ, ⟨vals', e1, e2, Tests_one (hel.mono fun b τ' ⟨q1, q2, q3⟩ => ⟨q1, ?_, fun y hy => ?_⟩)⟩, hr, S₁, x₁⟩
  · rw [q2]
    show p d = (if p d = true then some (F d) else none).isSome
    cases p d <;> rfl
  · have hy' : (if p d = true then some (F d) else none) = some y := hy
    cases hp : p d with
    | true => rw [hp] at hy'; cases hy'; exact q3 hp
    | false => rw [hp] at hy'; cases hy'
theorem S_AssignFilterC {x : Str} {px spos : Pos} {elt t iter : Expr} {scope : Scope} {pos : Pos} {Q : Fl → Sig → Prop} (names : List Str) (cl : List (Str × Addr)) (ok : CompOk names scope cl env) (hs : ∀ x, foldedSetIterable iter env x = pure x)
    (hsw : swapsWith (.ListComp elt [⟨target, iter, [t], 0⟩] scope pos) (some (.Name x px)) spos.line env = pure true)
    (h : WE c iter env σ fun d σ₁ => FilterItems c target elt t iter scope cl env names d σ₁ fun ds σ₂ => WSt c x env (.lst ds) σ₂ fun _ σ₃ => Q .next σ₃) : WS c (.Assign [.Name x px] (.ListComp elt [⟨target, iter, [t], 0⟩] scope pos) spos) env σ Q := by
  refine S_AssignComp names cl ok hs hsw (h.mono fun d σ₁ ⟨Kσ, ds, p, F, hz, src, hK, items, hq⟩ => ⟨Kσ, ds, fun d => if p d = true then some (F d) else none, hz, src, hK, fun C d hd vals hv => ?_, by rw [filterMap_if]; exact hq⟩)
  intro X s v S r
  refine wpAny_mono (items C d hd vals hv X s v S r) (fun _ s₁ h₁ => ?_) fun _ _ e => e
  obtain ⟨u, τ, ⟨vals', e1, e2, hel⟩, hr, S₁, x₁⟩ := h₁
  refine ⟨u, τ, ⟨vals', e1, e2, Tests_one (hel.mono fun b τ' ⟨q1, q2, q3⟩ => ⟨q1, ?_, fun y hy => ?_⟩)⟩, hr, S₁, x₁⟩
  · rw [q2]
    show p d = (if p d = true then some (F d) else none).isSome
    cases p d <;> rfl
  · have hy' : (if p d = true then some (F d) else none) = some y := hy
    cases hp : p d with
    | true => rw [hp] at hy'; cases hy'; exact q3 hp
    | false => rw [hp] at hy'; cases hy'
noncomputable abbrev DictItems (c : Cx) (target kx vx iter : Expr) (scope : Scope) (cl : List (Str × Addr)) (env : Env) (names : List Str) (d : D) (σ : Sig) (Q : List (Str × D) → Sig → Prop) : Prop :=
  ∃ (Kσ : Sig → Prop) (ds : List D) (F : D → Str × D), ds.length ≤ sizeLine ∧ Src c target d σ Kσ ds ∧ (∀ p, Kσ (p :: σ)) ∧
    (∀ C, ∀ d ∈ ds, ∀ vals : List (Option D), vals.length = names.length → WA c target (cmpEnv scope cl C env) d ((C, .ns names vals) :: σ) fun _ τ => ∃ vals', τ = (C, .ns names vals') :: σ ∧ vals'.length = names.length ∧
      WE c kx (cmpEnv scope cl C env) τ fun k τ' => τ' = τ ∧ k = .str (F d).1 ∧ WE c vx (cmpEnv scope cl C env) τ fun y τ'' => τ'' = τ ∧ y = (F d).2) ∧ Q (gather F ds) σ
theorem E_DictC {kx vx iter : Expr} {scope : Scope} {pos : Pos} {Q : D → Sig → Prop} (names : List Str) (cl : List (Str × Addr)) (ok : CompOk names scope cl env) (hs : ∀ x, foldedSetIterable iter env x = pure x)
    (h : WE c iter env σ fun d σ₁ => DictItems c target kx vx iter scope cl env names d σ₁ fun es σ₂ => Q (.dct es) σ₂) : WE c (.DictComp kx vx [⟨target, iter, [], 0⟩] scope pos) env σ Q :=
  E_DictComp names cl ok hs (h.mono fun d σ₁ ⟨Kσ, ds, F, hz, src, hK, items, hq⟩ => ⟨Kσ, ds, F, hz, src, hK, items, hq⟩)
end
end Mine

namespace Mine
open PySem PySem.W PySem.Calls PyProof.Rows

section
variable {c : Cx} {σ τ ρ : Sig} {X X' : List Addr} {s s₁ s₂ s' : Shared} {it a C : Addr} {target : Expr} {env : Env} {f : Ob → Sig} {K : Frag}

/-- an object of others becomes one of ours -/
theorem St.claim {ob : Ob} (S : c.St (a :: X) σ s) (hX : a ∉ X) (hB : c.B.get? a = none) (hx : Holds c.prog c.w s (X ++ adrs ((a, ob) :: σ)) a ob) : c.St X ((a, ob) :: σ) s := by
  have hi : a ∉ adrs σ := fun hm => S.apart _ hm (.head _)
  have g : Grow s ((a :: X) ++ adrs σ) s (X ++ adrs ((a, ob) :: σ)) := Grow.refl fun b hb => by
    rcases List.mem_append.mp hb with q | q
    · exact List.mem_append.mpr (.inl (.tail _ q))
    · rcases List.mem_cons.mp q with q | q
      · exact List.mem_append.mpr (.inl (q ▸ .head _))
      · exact List.mem_append.mpr (.inr q)
  refine ⟨S.keep, List.nodup_cons.mpr ⟨hi, S.nodup⟩, fun b hb hm => ?_, fun b hb => S.xold b (.tail _ hb), fun b hb => ?_, fun p hp => ?_, S.toks, S.mods⟩
  · rcases List.mem_cons.mp hb with rfl | hb
    · exact hX hm
    · exact S.apart b hb (.tail _ hm)
  · rcases List.mem_cons.mp hb with rfl | hb
    · exact hB
    · exact S.fresh b hb
  · rcases List.mem_cons.mp hp with rfl | hp
    · exact hx
    · exact (S.hold p hp).grow g fun o e => e

/-- behind a dict comprehension whose dict will be turned -/
noncomputable def CompEndN (c : Cx) (X : List Addr) (σ : Sig) (s₁ : Shared) (es : List (Str × D)) (acc : Value) (C : Addr) (s' : Shared) : Prop :=
  ∃ m A, acc = .ref A ∧ s'.heap.Ns C m ∧ c.St (C :: X) ((A, .dict es) :: σ) s' ∧ Step σ ((A, .dict es) :: σ) s₁ s' ∧ s₁.heap.get? C = none

theorem compDict_coreN {kx vx iter : Expr} {scope : Scope} {cl : List (Str × Addr)} {pos : Pos} {names : List Str} {Kσ : Sig → Prop} {ds : List D} {F : D → Str × D} {d : D} {v : Value}
    (hcell : ∀ y ∈ scope.names, y.2 ≠ .cell) (hkind : scope.kind = .function) (hnd : names.Nodup) (hsz : ds.length ≤ sizeLine)
    (src : Src c target d σ Kσ ds) (hK : ∀ p, Kσ (p :: σ)) (items : ∀ C, ∀ d ∈ ds, CompItemD c target kx vx (compEnvC scope cl C env) names σ d (F d)) (S : c.St X σ s) (r : c.DV s (X ++ adrs σ) v d) :
    wpAny c.M c.A (pyIter v) (fun itv s₂ => wpAny c.M c.A newDict (fun acc s₃ => wpAny c.M c.A (newFunctionEnv scope env.globals cl [] env.qual none .none (some env)) (fun cenv s₄ =>
      codeAny c.M c.A (.compStart (.DictComp kx vx [⟨target, iter, [], 0⟩] scope pos) 0 itv acc { cenv with scope := relabel scope env }) (fun r s' => match r with | .ok _ => CompEndN c X σ s (gather F ds) acc cenv.locals s' | .error _ => False) s₄) noE s₃) noE s₂) noE s := by
  refine wpAny_mono (src X s v S r) (fun itv s₂ hr => ?_) fun _ _ e => e
  obtain ⟨it, I, rfl, hn, hI, ok, hr, hk, ht⟩ := hr
  have S₂ := S.guard hk ht hn (ok.has _ _ hI)
  refine wpAny_newObj_type (wpAny_newFunctionEnv hcell (by intro y hy; simp at hy) (fun h₁ hns hsb => ?_) hkind)
  dsimp only at hns hsb ⊢
  have hnew : (s₂.heap.push { cls := .type "dict", dict := none, data := .dict #[] }).DictOf (strKind c.prog c.w) s₂.heap.objs.size [] := Heap.DictOf.new s₂.heap
  have hmod : (s₂.heap.objs.size == sysModules) = false := by
    obtain ⟨b₀, o, hle, e⟩ := S.mods
    exact beq_eq_false_iff_ne.mpr (Nat.ne_of_gt (Nat.lt_of_le_of_lt hle (Heap.lt_size (hk _ _ (S.keep _ _ e)))))
  generalize hacc : s₂.heap.objs.size = acc at hns hsb hnew hmod ⊢
  generalize hs₃ : s₂.heap.push { cls := .type "dict", dict := none, data := .dict #[] } = H₃ at hns hsb hnew ⊢
  generalize hC : H₃.objs.size = C at hns hsb ⊢
  have k23 : ∀ b o, s₂.heap.get? b = some o → H₃.get? b = some o := fun b o e => by rw [← hs₃]; exact Heap.get?_push_of_some _ e
  have a₃ : ∃ o, H₃.get? acc = some o := by obtain ⟨o, _, _, ho, _⟩ := hnew; exact ⟨o, ho⟩
  have aC : acc ≠ C := by rw [← hC]; obtain ⟨o, ho⟩ := a₃; exact Nat.ne_of_lt (Heap.lt_size ho)
  have nacc : s₂.heap.get? acc = none := by rw [← hacc]; exact get_size
  have k34 : ∀ b o, H₃.get? b = some o → h₁.get? b = some o := fun b o e => hsb.extBut b o (by rw [← hC]; exact Nat.ne_of_lt (Heap.lt_size e)) (Heap.get?_push_of_some _ e)
  have S₃ : c.St (acc :: it :: X) σ { s₂ with heap := H₃ } := S₂.guard k23 (Nat.le_refl _) nacc a₃
  have nC : H₃.get? C = none := by rw [← hC]; exact get_size
  have S₄ : c.St (acc :: it :: X) ((C, .ns names (List.replicate names.length none)) :: σ) { s₂ with heap := h₁ } := by
    refine S₃.push k34 (Nat.le_refl _) nC ⟨_, hns, hnd, List.length_replicate, fun i y d e1 e2 => ?_⟩
    have : d = none := by
      obtain ⟨_, e⟩ := List.getElem?_eq_some_iff.mp e2
      rw [List.getElem_replicate] at e; exact e.symm
    subst this
    exact .none
  have nit : c.B.get? it = none := by
    cases q : c.B.get? it with
    | none => rfl
    | some o => rw [S.keep _ _ q] at hn; cases hn
  have nacc₀ : s.heap.get? acc = none := by
    cases q : s.heap.get? acc with
    | none => rfl
    | some o => rw [hk _ _ q] at nacc; cases nacc
  have naccB : c.B.get? acc = none := by
    cases q : c.B.get? acc with
    | none => rfl
    | some o => rw [S.keep _ _ q] at nacc₀; cases nacc₀
  have nC₀ : s.heap.get? C = none := by
    cases q : s.heap.get? C with
    | none => rfl
    | some o => rw [k23 _ _ (hk _ _ q)] at nC; cases nC
  have hitacc : it ≠ acc := fun q => by obtain ⟨o, e⟩ := ok.has _ _ hI; rw [q, nacc] at e; cases e
  have hitC : it ≠ C := fun q => by obtain ⟨o, e⟩ := ok.has _ _ hI; rw [k23 _ _ (q ▸ e)] at nC; cases nC
  have notX : ∀ b, s.heap.get? b = none → b ∉ X := fun b hb hm => by obtain ⟨o, e⟩ := S.xold b hm; rw [hb] at e; cases e
  have notσ : ∀ b, s.heap.get? b = none → b ∉ adrs σ := fun b hb hm => by obtain ⟨o, e⟩ := S.has hm; rw [hb] at e; cases e
  have st₄ : Step σ ((C, .ns names (List.replicate names.length none)) :: σ) s { s₂ with heap := h₁ } :=
    ⟨by rw [hr], fun b o hb e => k34 _ _ (k23 _ _ (hk _ _ e)), fun a ha => by rcases List.mem_cons.mp ha with rfl | ha; exact .inr nC₀; exact .inl ha, ht⟩
  have keepD : ∀ {h h' : Heap} {kvs : List (Str × Value)}, h.DictOf (strKind c.prog c.w) acc kvs → (∀ o, h.get? acc = some o → h'.get? acc = some o) → h'.DictOf (strKind c.prog c.w) acc kvs := fun x e => by
    obtain ⟨o, ho, hx⟩ := dictAt (h' := _) x
    exact hx (e _ ho)
  have loop : codeAny c.M c.A (.compLoop (.DictComp kx vx [⟨target, iter, [], 0⟩] scope pos) 0 (.ref it) (.ref acc) (compEnvC scope cl C env)) (fun r s' => match r with | .ok _ => CompEndN c X σ s (gather F ds) (.ref acc) C s' | .error _ => False) { s₂ with heap := h₁ } := by
    refine compLoopD_any (fun n s' => ∃ i vals kvs, n = ds.length - i ∧ i ≤ ds.length ∧ vals.length = names.length ∧ s'.heap.DictOf (strKind c.prog c.w) acc kvs ∧ DKs c.prog c.w s' ((acc :: it :: X) ++ adrs ((C, .ns names vals) :: σ)) kvs (gather F (ds.take i)) ∧
      c.St (acc :: it :: X) ((C, .ns names vals) :: σ) s' ∧ I i s'.heap ∧ Step σ ((C, .ns names vals) :: σ) s s') ?_ ds.length
      ⟨0, _, [], rfl, Nat.zero_le _, List.length_replicate, keepD hnew fun o e => k34 _ _ e, by rw [List.take_zero]; exact .nil, S₄, ok.stable _ _ _ hI fun o e => k34 _ _ (k23 _ _ e), st₄⟩
    rintro n s' ⟨i, vals, kvs, rfl, hi, hvl, ha, hvs, S', hI', x'⟩
    have gr : Grow s (X ++ adrs σ) s' ((acc :: it :: X) ++ adrs ((C, .ns names vals) :: σ)) := by
      have g := x'.grow X
      refine ⟨g.keep, fun b o e hb hm => ?_, g.toks⟩
      rcases List.mem_cons.mp hm with q | hm
      · rw [q, nacc₀] at e; cases e
      · rcases List.mem_cons.mp hm with q | hm
        · rw [q, hn] at e; cases e
        · exact g.bad b o e hb hm
    rcases Nat.lt_or_ge i ds.length with hlt | hge
    · have hdi : ds[i]? = some ds[i] := by simp [hlt]
      refine wpAny_mono (ok.item (acc :: it :: X) _ s' i ds[i] gr (hK _) S' hI' hdi) (fun r s₃ hr => ?_) fun _ _ e => e
      obtain ⟨v', rfl, hg⟩ := hr
      refine wpAny_mono hg (fun _ s₅ h₅ => ?_) fun _ _ e => e
      obtain ⟨T, hI₅, rv⟩ := h₅
      have S₅ := S'.turned (.tail _ (.head _)) T (ok.has _ _ hI₅) nit
      have x₅ := x'.tick T hn
      have a₅ : s₅.heap.DictOf (strKind c.prog c.w) acc kvs := keepD ha fun o e => T.ext _ _ (Ne.symm hitacc) e
      have d₅ := DKs.grow (T.grow (List.mem_append.mpr (.inl (.tail _ (.head _))))) hvs
      refine (items C ds[i] (List.getElem_mem hlt) vals hvl (acc :: it :: X) s₅ v' S₅ (rv (.tail _ (.head _)))) |> fun hw => wpAny_mono hw (fun _ s₆ h₆ => ?_) fun _ _ e => e
      obtain ⟨_, τ₆, ⟨vals', rfl, hvl', hkx⟩, _, S₆, x₆⟩ := h₆
      refine wpAny_mono (hkx (acc :: it :: X) s₆ S₆) (fun kv s₇ h₇ => ?_) fun _ _ e => e
      obtain ⟨k', τ₇, ⟨rfl, rfl, hvx⟩, r₇, S₇, x₇⟩ := h₇
      refine wpAny_mono (hvx (acc :: it :: X) s₇ S₇) (fun vv s₈ h₈ => ?_) fun _ _ e => e
      obtain ⟨y', τ₈, ⟨rfl, rfl⟩, r₈, S₈, x₈⟩ := h₈
      have accnot : acc ∉ adrs ((C, .ns names vals') :: σ) := fun hm => S₇.apart _ hm (.head _)
      have itnot : it ∉ adrs ((C, .ns names vals') :: σ) := fun hm => S₇.apart _ hm (.tail _ (.head _))
      have x58 := x₆.trans (x₇.trans x₈)
      have a₈ : s₈.heap.DictOf (strKind c.prog c.w) acc kvs := keepD a₅ fun o e => x58.ext _ _ accnot e
      have d₈ := DKs.grow (x58.grow (acc :: it :: X)) d₅
      have I₈ : I (i + 1) s₈.heap := ok.stable _ _ _ hI₅ fun o e => x58.ext _ o itnot e
      have st₈ := x₅.trans x58
      have hlen : kvs.length ≤ sizeLine := by
        rw [d₈.length]
        exact Nat.le_trans (gather_len hi) (Nat.le_trans hi hsz)
      refine wpAny_dictSet_pairs (hsz := hlen) (is_str r₇) a₈ fun h' hp hs' => ?_
      have T₉ : Tick acc s₈ { s₈ with heap := h', toks := s₈.toks + 1 } := Tick.same hs' (Nat.le_succ _)
      have g₉ := T₉.grow (bad := (acc :: it :: X) ++ adrs ((C, .ns names vals') :: σ)) (.head _)
      refine ⟨ds.length - (i + 1), by omega, i + 1, vals', _, rfl, hlt, hvl', hp, ?_, S₈.turned (.head _) T₉ (by obtain ⟨o, _, _, ho, _⟩ := hp; exact ⟨o, ho⟩) naccB, ok.stable _ _ _ I₈ fun o e => T₉.ext _ o hitacc e, st₈.tick T₉ nacc₀⟩
      rw [gather_succ hdi]
      exact (DKs.grow g₉ d₈).put (r₈.grow g₉)
    · have he : i = ds.length := Nat.le_antisymm hi hge
      subst he
      refine wpAny_mono (ok.done (acc :: it :: X) _ s' gr (hK _) S' hI') (fun r s₃ hr => ?_) fun _ _ e => e
      obtain ⟨rfl, T⟩ := hr
      obtain ⟨m, hnC, _⟩ := S'.hold _ (.head _)
      have S'' := (show c.St (acc :: it :: X) ([(C, .ns names vals)] ++ σ) s' from S').lend
      have aX : acc ∉ C :: X := fun hm => by
        rcases List.mem_cons.mp hm with q | q
        · exact aC q
        · exact notX _ nacc₀ q
      obtain ⟨S₉, g₉⟩ := (show c.St (adrs [(C, .ns names vals)] ++ (acc :: it :: X)) (([] : Sig) ++ σ) s' from S'').shed (X := acc :: C :: X) (s₁ := s₃) (T := [it]) (fun b o hb e => T.ext b o (fun q => hb (by simp [q])) e) T.toks
        (fun b hb => by simp at hb; simp [hb]) (fun b hb => by simp at hb; rw [hb]; exact notσ _ hn) (fun b hb => by simp at hb; rw [hb]; simp [hitC, hitacc, notX _ hn]) (fun b hb => by simp at hb; rw [hb]; exact nit) (fun b hb => by simp at hb ⊢; rcases hb with h | h | h <;> simp [h])
      have st₉ := x'.tick T hn
      refine ⟨m, acc, rfl, hnC.at' fun o e => T.ext _ o (Ne.symm hitC) e, S₉.claim aX naccB ⟨hmod, kvs, keepD ha fun o e => T.ext _ _ (Ne.symm hitacc) e, ?_⟩, ⟨st₉.rest, st₉.ext, fun a ha => ?_, st₉.toks⟩, nC₀⟩
      · rw [List.take_length] at hvs
        refine DKs.grow (Grow.refl fun b hm => ?_) (DKs.grow g₉ (DKs.grow (Grow.refl fun b hm => ?_) hvs))
        · simp at hm ⊢
          rcases hm with h | h | h | h <;> simp [h]
        · simp at hm ⊢
          rcases hm with h | h | h | h | h <;> simp [h]
      · rcases List.mem_cons.mp ha with rfl | ha
        · exact .inr nacc₀
        · exact .inl ha
  refine codeAny_compStart_dict loop (noE_le (ok.self _ _ ?_ loop))
  exact ok.stable _ _ _ hI fun o e => k34 _ _ (k23 _ _ e)


theorem E_DictN {kx vx iter : Expr} {scope : Scope} {pos : Pos} {Q : D → Sig → Prop} (names : List Str) (cl : List (Str × Addr)) (ok : CompOk names scope cl env) (hs : ∀ x, foldedSetIterable iter env x = pure x)
    (h : WE c iter env σ fun d σ₁ => ∃ (Kσ : Sig → Prop) (ds : List D) (F : D → Str × D), ds.length ≤ sizeLine ∧ Src c target d σ₁ Kσ ds ∧ (∀ p, Kσ (p :: σ₁)) ∧ (∀ C, ∀ d ∈ ds, CompItemD c target kx vx (compEnvC scope cl C env) names σ₁ d (F d)) ∧
      ∀ a, Q (.val (.ref a)) ((a, .dict (gather F ds)) :: σ₁)) :
    WE c (.DictComp kx vx [⟨target, iter, [], 0⟩] scope pos) env σ Q := fun X s S => by
  rw [arm_eval_DictComp]
  refine wpAny_comprehension_free (use := none) rfl hs ok.clos ok.kind ok.look (h.then S fun v s₁ d τ₁ h₁ r₁ S₁ x₁ => ?_)
  obtain ⟨Kσ, ds, F, hz, src, hK, items, hq⟩ := h₁
  refine wpAny_mono (compDict_coreN (iter := iter) (pos := pos) ok.cell ok.kind ok.nodup hz src hK items S₁ r₁) (fun itv s₂ h₂ => wpAny_mono h₂ (fun acc s₃ h₃ => wpAny_mono h₃ (fun cenv s₄ h₄ => codeAny_mono h₄ fun r s' hr => ?_) fun _ _ e => e) fun _ _ e => e) fun _ _ e => e
  cases r with
  | error e => exact hr.elim
  | ok f =>
    obtain ⟨m, A, rfl, hn, S', x, nC⟩ := hr
    refine ⟨m, hn, fun h' hs' => ?_⟩
    have nX : cenv.locals ∉ X := fun hm => by obtain ⟨o, e⟩ := S₁.xold _ hm; rw [nC] at e; cases e
    have nσ : cenv.locals ∉ adrs ((A, .dict (gather F ds)) :: τ₁) := fun hm => S'.apart _ hm (.head _)
    have nB : c.B.get? cenv.locals = none := by
      cases q : c.B.get? cenv.locals with
      | none => rfl
      | some o => rw [S₁.keep _ _ q] at nC; cases nC
    obtain ⟨S'', g⟩ := (show c.St (cenv.locals :: X) (([] : Sig) ++ ((A, .dict (gather F ds)) :: τ₁)) s' from S').shed (X := X) (s₁ := { s' with heap := h' }) (T := [cenv.locals]) (fun b o hb e => (hs'.2 b (fun q => hb (by simp [q]))).trans e) (Nat.le_refl _)
      (fun b hb => by simp at hb; simp [hb]) (fun b hb => by simp at hb; rw [hb]; exact nσ) (fun b hb => by simp at hb; rw [hb]; exact nX) (fun b hb => by simp at hb; rw [hb]; exact nB) (fun b hb => .tail _ hb)
    exact ⟨.val _, _, hq A, .val _, S'', x₁.trans ⟨by rw [x.rest], fun b o hb e => (hs'.2 b (fun q => by rw [q, nC] at e; cases e)).trans (x.ext b o hb e), x.new, x.toks⟩⟩
end
end Mine

namespace Mine
open PySem PySem.W PySem.Calls PyProof.Rows

/-- a call's frame with one name stored: the counter of tokens has risen -/
theorem newEnv_one {M : Model} {A : Around} {E : Value → Shared → Prop} {s : Shared} {scope : Scope} {globals : Addr} {p : Str} {v : Value} {qual : Str} {func : Option Addr} {code : Value} {builtins : Addr} {Q : Env → Shared → Prop}
    (hk : scope.kind = .function) (hl : scope.names.lookup p = some .local)
    (hQ : ∀ env, env = newEnv scope s.heap.objs.size globals (cellsFrom (s.heap.objs.size + 1) scope.names []) qual func code none builtins →
      ∀ s', InCallC s env.locals (bindL env.kindOf [(p, v)] fun _ => none) env.cells (bindC env.kindOf [(p, v)] fun _ => none) s' → s'.toks = s.toks + 1 → Q env s') :
    wpAny M A (newFunctionEnv scope globals [] [(p, v)] qual func code none builtins) Q E s := by
  simp only [newFunctionEnv, Option.isSome_none, Bool.false_eq_true, if_false]
  refine wpAny_bind (wpAny_alloc ?_)
  refine wpAny_bind (wpAny_layCells _ (fun name kind cells => by cases hkc : kind == NameKind.cell <;> simp [hkc]) _ _ _ _ ?_)
  have ok := cellsFrom_ok scope.names (s.heap.push { cls := .type "frame", data := .dict #[] }) (s.heap.objs.size + 1) [] ⟨fun _ _ hm => (nomatch hm), List.Pairwise.nil⟩ (by rw [Heap.size_push]; exact Nat.le_refl _)
  rw [Heap.size_push] at ok
  rw [show ({ s with heap := s.heap.push { cls := .type "frame", data := .dict #[] } } : Shared).heap.objs.size = s.heap.objs.size + 1 from Heap.size_push ..]
  have x : InCallC s (newEnv scope s.heap.objs.size globals (cellsFrom (s.heap.objs.size + 1) scope.names []) qual func code none builtins).locals (fun _ => none) (newEnv scope s.heap.objs.size globals (cellsFrom (s.heap.objs.size + 1) scope.names []) qual func code none builtins).cells (fun _ => none) { s with heap := pushCells (s.heap.push { cls := .type "frame", data := .dict #[] }) scope.names } :=
    ⟨⟨⟨_, _, rfl⟩, (Heap.Ns.new s.heap (.type "frame")).keeps (pushCells_keeps _ _), fun b o e => pushCells_keeps _ _ b o (Heap.get?_push_of_some _ e), Nat.le_refl _⟩,
      fun n c hc => (ok.empty n c (mem_of_lookup hc)).1, ok.apart, fun n c hm => (ok.empty n c hm).2⟩
  rw [List.forIn_cons]
  have hl' : (newEnv scope s.heap.objs.size globals (cellsFrom (s.heap.objs.size + 1) scope.names []) qual func code none builtins).kindOf p = some .local := hl
  refine wpAny_bind (wpAny_bind (wpAny_bind (wpAny_storeName_local hl' x.toInCall.ns (fun h' hn' hs' => wpAny_pure ?_) (by show (scope.kind == _ || scope.kind == _ && _) = _; rw [hk]; rfl))))
  show wpAny M A (forIn ([] : List (Str × Value)) PUnit.unit _) _ _ _
  rw [List.forIn_nil]
  refine wpAny_pure (wpAny_pure (hQ _ rfl _ ⟨⟨⟨h', _, rfl⟩, ?_, fun b o e => ?_, x.toInCall.fresh⟩, fun k c hc => ?_, x.apart, x.above⟩ rfl))
  · unfold bindL bindL
    rw [if_pos hl']
    exact hn'
  · exact hs'.extBut b o (Nat.ne_of_lt (Nat.lt_of_lt_of_le (Heap.lt_size e) x.toInCall.fresh)) (x.toInCall.keep b o e)
  · unfold bindC bindC
    rw [if_pos hl']
    exact (x.cell k c hc).sameBut hs' (Nat.ne_of_gt (x.above k c (mem_of_lookup hc)))

section
variable {c : Cx} {σ τ ρ : Sig} {X X' : List Addr} {s s₁ s₂ s' : Shared} {it a C : Addr} {target : Expr} {env : Env} {f : Ob → Sig} {K : Frag}
theorem call_boot {name qn : Str} {params : Arguments} {body : List Stmt} {scope : Scope} {dv kd pm cd : Value} {p : Str} {ns : List Str} {v : Value} {d : D} {Q : D → Sig → Prop}
    (ho : c.B.get? a = some (fnObj name qn params body scope dv kd pm cd)) (ok : FnOk scope [p] ns) (hroom : c.A.depth < recursionLimit) (hlim : c.B.NoLimit) (hcode : c.B.CodeRec cd qn) (hl : scope.names.lookup p = some .local)
    (hb : bindArgs (fnData name qn params body scope dv kd pm cd) ⟨[v], []⟩ = pure [(p, v)])
    (n : Nat) (h : ∀ L, WX (c.deeper (envOfC qn scope L a cd)) body (envOfC qn scope L a cd) (frameOf scope L [p] ns [d] ++ σ) fun fl τ' => ∃ d τ, Ret fl d ∧ Drops n τ' τ ∧ Q d τ)
    (S : c.St X σ { s with toks := s.toks + 1 }) (r : c.DV { s with toks := s.toks + 1 } (X ++ adrs σ) v d) :
    codeAny c.M c.A (.call (.ref a) ⟨[v], []⟩) (fun r s' => match r with | .ok (.ret v) => c.Post X σ { s with toks := s.toks + 1 } c.DV Q v s' | .ok _ => False | .error _ => False) s := by
  refine (codeAny_call_function hroom (S.keep _ _ ho) (fd := fnData name qn params body scope dv kd pm cd) rfl ok.co ok.gen rfl (hcode.keeps S.keep) ?_)
  rw [hb]
  refine wpAny_pure ?_
  refine wpAny_mono (E := noE) (newEnv_one ok.kind hl fun env he s₂ I htk => ⟨hlim.keeps fun b o e => I.toInCall.keep b o (S.keep b o e), ?_⟩) (fun _ _ p => p) fun _ _ e => e.elim
  obtain rfl : env = envOfC qn scope s.heap.objs.size a cd := he
  generalize hL : s.heap.objs.size = L at I ⊢
  refine codeAny_func ?_
  obtain ⟨h₂, tk, e2⟩ := I.toInCall.same
  have htk' : s.toks + 1 ≤ tk := by rw [e2] at htk; exact Nat.le_of_eq htk.symm
  have hcn : ((cellsFrom (L + 1) scope.names []).map (·.1)).Nodup := cellsFrom_names scope.names 0 (L + 1) [] [] rfl ▸ ok.celln
  have fresh : ∀ b ∈ adrs (frameOf scope L [p] ns [d]), ({ s with toks := s.toks + 1 } : Shared).heap.get? b = none := by
    intro b hb
    rcases List.mem_cons.mp hb with rfl | hb
    · exact hL ▸ get_size
    · obtain ⟨p, hp, rfl⟩ := List.mem_map.mp hb
      obtain ⟨q, hq, rfl⟩ := List.mem_map.mp hp
      have := I.above q.1 q.2 hq
      exact Heap.get?_none_of_le (hL ▸ Nat.le_of_lt this)
  have rs : c.DVs { s with toks := s.toks + 1 } (X ++ adrs σ) [v] [d] := .cons r .nil
  obtain ⟨S₂, g₂⟩ := S.adds (s' := s₂) (ρ := frameOf scope L [p] ns [d]) I.toInCall.keep (by rw [e2]; exact htk') (by
      refine List.nodup_cons.mpr ⟨fun hm => ?_, ?_⟩
      · obtain ⟨p, hp, e⟩ := List.mem_map.mp hm
        obtain ⟨q, hq, rfl⟩ := List.mem_map.mp hp
        have := I.above q.1 q.2 hq
        rw [show q.2 = L from e] at this
        exact Nat.lt_irrefl _ this
      · rw [List.map_map]
        exact List.pairwise_map.mpr I.apart) fresh fun g p' hp => by
      have r₂ := rs.grow g
      rcases List.mem_cons.mp hp with rfl | hp
      · refine ⟨_, I.toInCall.ns, ok.nsn, List.length_map .., fun i y d' e1 e2 => ?_⟩
        rw [List.getElem?_map, e1] at e2
        cases e2
        have hy : (envOfC qn scope L a cd).kindOf y = some .local := ok.hns y (List.mem_of_getElem? e1)
        have e3 : bindL (envOfC qn scope L a cd).kindOf [(p, v)] (fun _ => none) y = (([p] : List Str).zip [v]).lookup y := by
          have := bindL_zip (n := y) hy (ps := [p]) (vs := [v]) (m := fun _ => none) ok.psn
          rw [Option.or_none] at this
          exact this
        rw [e3]
        exact zip_OV r₂
      · obtain ⟨q, hq, rfl⟩ := List.mem_map.mp hp
        have hlk := lookup_of_mem_nodup hcn (n := q.1) (c := q.2) hq
        obtain ⟨o, ho, hd⟩ := I.cell q.1 q.2 hlk
        have hy : (envOfC qn scope L a cd).kindOf q.1 ≠ some .local := by
          rcases cells_kind hq with h | h
          · show scope.names.lookup q.1 ≠ _
            rw [ok.cells _ h]; decide
          · cases h
        refine ⟨_, o, ho, hd, ?_⟩
        have e3 : bindC (envOfC qn scope L a cd).kindOf [(p, v)] (fun _ => none) q.1 = (([p] : List Str).zip [v]).lookup q.1 := by
          have := bindC_zip (n := q.1) hy (ps := [p]) (vs := [v]) (m := fun _ => none) ok.psn
          rw [Option.or_none] at this
          exact this
        rw [e3]
        exact zip_OV r₂
  have st : Step σ (frameOf scope L [p] ns [d] ++ σ) { s with toks := s.toks + 1 } s₂ := .adds (by rw [e2]) I.toInCall.keep (by rw [e2]; exact htk') fresh
  refine wpAny_mono ((h L) X s₂ S₂) (fun f s₃ h₃ => ?_) fun _ _ e => e.elim
  obtain ⟨fl, τ', ⟨d', τ, hr, hd, hq⟩, rr, S₃, x₃⟩ := h₃
  cases hr with
  | next =>
    cases rr
    exact ⟨_, τ, hq, .none, hd.st S₃, st.trans (x₃.trans hd.step)⟩
  | ret d =>
    cases rr with
    | ret r => exact ⟨_, τ, hq, r.grow hd.grow, hd.st S₃, st.trans (x₃.trans hd.step)⟩

/-- a call has given back what Q says -/
noncomputable def RetPost (c : Cx) (X : List Addr) (σ : Sig) (s : Shared) (Q : D → Sig → Prop) (r : Result) (s' : Shared) : Prop := ∃ v, r = .ok (.ret v) ∧ c.Post X σ s c.DV Q v s'
theorem call_bootC {name qn : Str} {params : Arguments} {body : List Stmt} {scope : Scope} {dv kd pm cd : Value} {p : Str} {ns : List Str} {v : Value} {d : D} {Q : D → Sig → Prop}
    (ho : c.B.get? a = some (fnObj name qn params body scope dv kd pm cd)) (hroom : c.A.depth < recursionLimit) (hlim : c.B.NoLimit) (hcode : c.B.CodeRec cd qn)
    (vs : List (Option D)) (cs : Addr → Sig) (ok : fnOk scope [p] ns = true) (hl : scope.names.lookup p = some .local)
    (hb : bindArgs (fnData name qn params body scope dv kd pm cd) ⟨[v], []⟩ = pure [(p, v)])
    (hvs : (ns.map fun n => (([p] : List Str).zip [d]).lookup n) = vs) (hcs : ∀ L, ((cellsFrom (L + 1) scope.names []).map fun x => (x.2, Ob.cell ((([p] : List Str).zip [d]).lookup x.1))) ++ σ = cs L)
    (n : Nat) (h : ∀ L, WX (c.deeper (fnEnv qn scope L a cd)) body (fnEnv qn scope L a cd) ((L, .ns ns vs) :: cs L) fun fl τ' => ∃ d τ, Ret fl d ∧ Drops n τ' τ ∧ Q d τ)
    (S : c.St X σ { s with toks := s.toks + 1 }) (r : c.DV { s with toks := s.toks + 1 } (X ++ adrs σ) v d) :
    codeAny c.M c.A (.call (.ref a) ⟨[v], []⟩) (RetPost c X σ { s with toks := s.toks + 1 } Q) s := by
  refine codeAny_mono (call_boot ho (fnOk_of ok) hroom hlim hcode hl hb n (fun L => ?_) S r) fun r s' hr => by
    rcases r with e | (v | _ | _ | _)
    all_goals first | exact hr.elim | exact ⟨_, rfl, hr⟩
  have := h L
  unfold frameOf envOfC
  rw [hvs, List.cons_append, hcs L]
  exact this

/-- a slice of a list that was there before -/
theorem E_SliceB {value : Expr} {lower upper : Option Expr} {p pos : Pos} {Q : D → Sig → Prop} {l : Addr} {vs : List Value} {ns : List Int} (hL : c.B.IsList l vs.toArray) (hI : IntsAre vs ns) (hz : ns.length ≤ 1000)
    (hs : ∀ o r, subscripted (.Slice lower upper none p) false o r = operate [r, o] (getItem o r))
    (h : WE c value env σ fun d σ₁ => d = .val (.ref l) ∧ WP c lower env σ₁ fun dl σ₂ => WP c upper env σ₂ fun du σ₃ => ∃ lo hi, PartD dl lo ∧ PartD du hi ∧ Q (.lst (pickD (ns.map .int) lo hi)) σ₃) :
    WE c (.Subscript value (.Slice lower upper none p) pos) env σ Q := fun X s S =>
  Subscript_ (h.then S fun v s₁ d τ₁ h₁ r₁ S₁ x₁ => wpAny_Slice (h₁.2.then S₁ fun vl s₂ dl τ₂ h₂ r₂ S₂ x₂ => h₂.then S₂ fun vu s₃ du τ₃ h₃ r₃ S₃ x₃ => by
    obtain ⟨rfl, _⟩ := h₁
    (first | obtain ⟨_, rfl⟩ := DV.iX r₁ | obtain ⟨_, rfl⟩ := DV.sX r₁ | obtain rfl := DV.nX r₁ | obtain rfl := DV.bX r₁ | obtain rfl := DV.vX r₁ | obtain rfl := DVs.zX r₁ | cases r₁)
    obtain ⟨lo, hi, pl, pu, hq⟩ := h₃
    have q : ∀ {vs : List Value} {ns : List Int}, IntsAre vs ns → c.DVs s₃ (X ++ adrs τ₃) vs (ns.map .int) := by
      intro vs ns h
      induction h with
      | nil => exact .nil
      | cons n t _ ih => exact .cons (.int ..) ih
    have q := q hI
    have z := q.length
    obtain ⟨ol, eol, rol⟩ := hL
    have hl : s₃.heap.IsList l vs.toArray := ⟨ol, S₃.keep _ _ eol, rol⟩
    rw [evalPart_none]
    refine wpAny_pure ?_
    refine tail_any (hl.push _).typeIs slot_list_getitem.lookup (wpAny_getItem_list_slice (hl.push _) (Heap.IsSliceOf.new ..) (pl.of (r₂.grow (x₃.grow X))) (pu.of r₃) .none (by simp) ?_ (by rw [List.size_toArray, sizeLine_eq, z, List.length_map]; omega)) (hs _ _)
    rw [kms_pick_eq]
    have hp : c.DVs s₃ (X ++ adrs τ₃) (kms_pick vs lo hi) (pickD (ns.map .int) lo hi) := by
      unfold kms_pick pickD
      rw [z]
      exact q.drop.take
    have S₄ := S₃.pushed (o := { cls := .type "slice", data := .fields #[vl, vu, .none] })
    exact ⟨.lst _, τ₃, hq, new_lst S₄ (hp.grow grow_push), S₄.pushed, x₁.trans (x₂.trans (x₃.trans (Step.pushed.trans .pushed)))⟩))
end
end Mine

namespace Mine
open PySem PySem.W PySem.Calls PyProof.Rows

/-! sets of roads as numbers below 32: the bit 4 - k is set where road k is small -/
noncomputable def sgn (m k : Nat) : Nat := if m.testBit (4 - k) then 97 + k else 65 + k
noncomputable def sgns (m : Nat) : List Nat := [sgn m 0, sgn m 1, sgn m 2, sgn m 3, sgn m 4]
noncomputable def tx (l : List Nat) : Str := ⟨l.toArray⟩
noncomputable def txt (m : Nat) : Str := tx (sgns m)
noncomputable def upS (i : Nat) : Str := tx [65 + i]
noncomputable def loS (j : Nat) : Str := tx [97 + j]
/-- what is written as loose beside the tree m -/
noncomputable def lzOf (less : Nat → Nat → Bool) (S : List (Nat × Nat × Nat)) (m : Nat) : List Nat := (S.filter (·.1 == m)).map fun s => if less s.2.2 s.2.1 then 65 + s.2.1 else 97 + s.2.2
noncomputable def firmL (less : Nat → Nat → Bool) (S : List (Nat × Nat × Nat)) (m : Nat) : List Nat := (sgns m).filter fun ch => !decide (ch ∈ lzOf less S m)

theorem txt_inj : ∀ m < 32, ∀ n < 32, txt m = txt n → m = n := by decide +kernel
theorem find_lo : ∀ j < 5, Txt.find "abcde" (loS j) = (j : Int) := by decide +kernel
theorem find_up : ∀ i < 5, Txt.find "ABCDE" (upS i) = (i : Int) := by decide +kernel
theorem tx_len (l : List Nat) : (tx l).length = l.length := List.size_toArray ..
theorem tx_app (l k : List Nat) : tx l ++ tx k = tx (l ++ k) := by
  show (⟨l.toArray ++ k.toArray⟩ : Str) = ⟨(l ++ k).toArray⟩
  simp
theorem contains_one (l : List Nat) (n : Nat) : Txt.contains (tx l) (tx [n]) = decide (n ∈ l) := by
  have := PySem.StrLaws.found_one (tx l) n
  unfold Txt.contains
  exact this
theorem foldl_chars : ∀ (l : List Nat) (acc : Array Nat), (l.map fun n => tx [n]).foldl (fun acc p => acc ++ (Str.ofString "").cps ++ p.cps) acc = acc ++ l.toArray
  | [], acc => by simp
  | n :: l, acc => by
    rw [List.map_cons, List.foldl_cons, foldl_chars l]
    show acc ++ #[] ++ [n].toArray ++ l.toArray = _
    apply Array.toList_inj.mp
    simp
theorem join_chars (l : List Nat) : Txt.join "" (l.map fun n => tx [n]) = tx l := by
  cases l with
  | nil => rfl
  | cons n l =>
    show (⟨(l.map fun n => tx [n]).foldl (fun acc p => acc ++ (Str.ofString "").cps ++ p.cps) [n].toArray⟩ : Str) = _
    rw [foldl_chars]
    unfold tx
    congr 1
    apply Array.toList_inj.mp
    simp
theorem fold_len : ∀ (l : List Nat) (a : Nat), (l.map fun n => tx [n]).foldl (fun a p => a + p.length + (Str.ofString "").length) a = a + l.length
  | [], a => rfl
  | n :: l, a => by
    rw [List.map_cons, List.foldl_cons, fold_len l]
    show a + 1 + 0 + l.length = a + (l.length + 1)
    omega
theorem joinOk_chars {l : List Nat} (h : l.length ≤ 1000) : JoinOk "" (l.map fun n => tx [n]) = true := by
  unfold JoinOk
  have e : ((l.map fun n => tx [n]).toArray.foldl (fun a p => a + p.length + (Str.ofString "").length) 0) = l.length := by
    rw [List.foldl_toArray, fold_len]; omega
  have e' : ((l.map fun n => tx [n]).toArray.foldl (· + ·.length + (Str.ofString "").length) 0) = l.length := e
  rw [e']
  unfold Builtin.Str.tooLong
  have z := sizeLine_eq
  simp
  omega
theorem sgns_len (m : Nat) : (sgns m).length = 5 := rfl
theorem sgns_ascii (m : Nat) : ((txt m).cps.all fun n => decide (n < 128)) = true := by
  unfold txt tx sgns sgn
  simp only [List.all_toArray, List.all_cons, List.all_nil, Bool.and_true, Bool.and_eq_true, decide_eq_true_eq]
  refine ⟨?_, ?_, ?_, ?_, ?_⟩ <;> (split <;> decide)
theorem firmL_len (less : Nat → Nat → Bool) (S : List (Nat × Nat × Nat)) (m : Nat) : (firmL less S m).length ≤ 5 := List.length_filter_le ..
theorem lzOf_len (less : Nat → Nat → Bool) (S : List (Nat × Nat × Nat)) (m : Nat) : (lzOf less S m).length ≤ S.length := by
  unfold lzOf
  rw [List.length_map]
  exact List.length_filter_le ..
theorem lzOf_snoc (less : Nat → Nat → Bool) (S : List (Nat × Nat × Nat)) (s : Nat × Nat × Nat) (m : Nat) : lzOf less (S ++ [s]) m = if m = s.1 then lzOf less S m ++ [if less s.2.2 s.2.1 then 65 + s.2.1 else 97 + s.2.2] else lzOf less S m := by
  unfold lzOf
  rw [List.filter_append, List.map_append, List.filter_cons]
  by_cases h : m = s.1
  · rw [if_pos h, if_pos (by rw [h]; exact beq_self_eq_true _)]; rfl
  · rw [if_neg h, if_neg (by intro q; exact h (eq_of_beq q).symm)]; simp
end Mine

namespace Mine
open PySem PySem.W PySem.Calls PyProof.Rows

/-! the sets that a tree covers -/
noncomputable def goC (l : List (Nat × Int)) (ch : Nat) : List (Nat × Int) := if ch < 97 then l ++ l.map (fun p => (p.1 ||| 2 ^ (4 - (ch - 65)), p.2 + 1)) else l ++ l.map (fun p => (p.1 &&& (31 - 2 ^ (4 - (ch - 97))), p.2))
noncomputable def setsC (m : Nat) (fl : List Nat) : List (Nat × Int) := fl.foldl goC [(m, 1)]
noncomputable def Sign (n : Nat) : Prop := ∃ k < 5, n = 65 + k ∨ n = 97 + k
theorem rep_lo : ∀ x < 32, ∀ k < 5, Txt.replace (txt x) (tx [65 + k]) (Txt.lower (tx [65 + k])) = txt (x ||| 2 ^ (4 - k)) := by decide +kernel
theorem rep_up : ∀ x < 32, ∀ k < 5, Txt.replace (txt x) (tx [97 + k]) (Txt.upper (tx [97 + k])) = txt (x &&& (31 - 2 ^ (4 - k))) := by decide +kernel
theorem lt_or : ∀ x < 32, ∀ k < 5, x ||| 2 ^ (4 - k) < 32 := by decide +kernel
theorem lt_and : ∀ x < 32, ∀ k < 5, x &&& (31 - 2 ^ (4 - k)) < 32 := by decide +kernel
theorem turn_lo : ∀ k < 5, Builtin.Str.tooLong (Txt.lower (tx [65 + k])).length = false ∧ (tx [65 + k] == Txt.lower (tx [65 + k])) = false ∧ (Txt.lower (tx [65 + k])).length = 1 := by decide +kernel
theorem turn_up : ∀ k < 5, Builtin.Str.tooLong (Txt.upper (tx [97 + k])).length = false ∧ (tx [97 + k] == Txt.upper (tx [97 + k])) = false ∧ (Txt.upper (tx [97 + k])).length = 1 := by decide +kernel
theorem in_up : ∀ k < 5, Txt.contains "ABCDE" (tx [65 + k]) = true ∧ Txt.contains "ABCDE" (tx [97 + k]) = false := by decide +kernel
theorem Sign.ascii {n : Nat} (h : Sign n) : n < 128 := by obtain ⟨k, hk, e | e⟩ := h <;> omega
theorem goC_len (l : List (Nat × Int)) (ch : Nat) : (goC l ch).length = 2 * l.length := by
  unfold goC
  split <;> (rw [List.length_append, List.length_map]; omega)
theorem fold_goC_len : ∀ (fl : List Nat) (l : List (Nat × Int)), (fl.foldl goC l).length = 2 ^ fl.length * l.length
  | [], l => by simp
  | ch :: fl, l => by
    rw [List.foldl_cons, fold_goC_len fl, goC_len, List.length_cons, Nat.pow_succ, Nat.mul_assoc]
theorem goC_32 {l : List (Nat × Int)} {ch : Nat} (hs : Sign ch) (h : ∀ p ∈ l, p.1 < 32) : ∀ p ∈ goC l ch, p.1 < 32 := by
  intro p hp
  obtain ⟨k, hk, rfl | rfl⟩ := hs
  · unfold goC at hp
    rw [if_pos (by omega)] at hp
    rcases List.mem_append.mp hp with q | q
    · exact h p q
    · obtain ⟨r, hr, rfl⟩ := List.mem_map.mp q
      rw [show 65 + k - 65 = k by omega]
      exact lt_or _ (h r hr) _ hk
  · unfold goC at hp
    rw [if_neg (by omega)] at hp
    rcases List.mem_append.mp hp with q | q
    · exact h p q
    · obtain ⟨r, hr, rfl⟩ := List.mem_map.mp q
      rw [show 97 + k - 97 = k by omega]
      exact lt_and _ (h r hr) _ hk
theorem perm_eq : ∀ {a b : List (Nat × Int)}, a.Perm b → a.Pairwise (fun x y => x.1 < y.1) → b.Pairwise (fun x y => x.1 < y.1) → a = b
  | [], b, p, _, _ => by rw [p.nil_eq]
  | x :: a, [], p, _, _ => absurd p.length_eq (by simp)
  | x :: a, y :: b, p, ha, hb => by
    have ha' := List.pairwise_cons.mp ha
    have hb' := List.pairwise_cons.mp hb
    have e : x = y := by
      rcases List.mem_cons.mp (p.mem_iff.mp (.head _)) with q | q
      · exact q
      · rcases List.mem_cons.mp (p.mem_iff.mpr (.head _)) with r | r
        · exact r.symm
        · have h1 := hb'.1 x q
          have h2 := ha'.1 y r
          omega
    subst e
    rw [perm_eq (List.Perm.cons_inv p) ha'.2 hb'.2]

/-! the two lists compared -/
noncomputable abbrev rowP (p : Nat × Int) : PyData := .tuple [.str (txt p.1), .int p.2]
theorem eqv_rows : ∀ l : List (Nat × Int), PyData.eqvAll (l.map rowP) (l.map rowP) = true
  | [] => rfl
  | p :: l => by
    simp only [List.map_cons, PyData.eqvAll, PyData.eqv, eqv_rows l, beq_self_eq_true, Bool.and_self]
theorem txt_ok : ∀ m < 32, PyData.canLay0 (.str (txt m)) = true := by decide +kernel
theorem canLay_rows : ∀ {l : List (Nat × Int)}, (∀ p ∈ l, p.1 < 32) → PyData.canLayAll0 (l.map rowP) = true ∧ PyData.depthAll (l.map rowP) ≤ 1
  | [], _ => ⟨rfl, by decide⟩
  | p :: l, h => by
    obtain ⟨h1, h2⟩ := canLay_rows (l := l) fun q hq => h q (.tail _ hq)
    have ht := txt_ok p.1 (h p (.head _))
    refine ⟨?_, ?_⟩
    · simp only [List.map_cons, PyData.canLayAll0, h1, Bool.and_true]
      simp only [rowP, PyData.canLay0, PyData.canLayAll0] at ht ⊢
      simp [ht]
    · simp only [List.map_cons, PyData.depthAll]
      refine Nat.max_le.mpr ⟨?_, h2⟩
      simp only [rowP, PyData.depth, PyData.depthAll]
      decide
theorem shaped_rows {l : List (Nat × Int)} (h : ∀ p ∈ l, p.1 < 32) : PySem.SeqAt.shaped (.list (l.map rowP)) = true := by
  obtain ⟨a, b⟩ := canLay_rows h
  unfold PySem.SeqAt.shaped
  have e : (PyData.list (l.map rowP)).depth ≤ 2 := by
    simp only [PyData.depth]
    omega
  simp only [PyData.canLay0, a]
  simp
  omega
end Mine

namespace Mine
open PySem PySem.W PySem.Calls PyProof.Rows

/-! the sort's tree of questions, where all keys differ -/
section
variable {n : Nat} {key : Nat → Nat} {cmp : Nat → Nat → (Bool → Shared → Prop) → Shared → Prop} {s : Shared}

noncomputable def Kp (key : Nat → Nat) (p : Array Nat) (i : Nat) : Nat := key (p.getD i 0)
structure Pm (n : Nat) (key : Nat → Nat) (p : Array Nat) : Prop where
  perm : p.Perm (List.range n).toArray
  inj : ∀ i j, i < n → j < n → key i = key j → i = j
theorem Pm.size {p : Array Nat} (h : Pm n key p) : p.size = n := by rw [h.perm.size_eq]; simp
theorem Pm.get {p : Array Nat} (h : Pm n key p) {i : Nat} (hi : i < n) : p.getD i 0 < n := by
  have hs : i < p.size := by rw [h.size]; exact hi
  have e : p.getD i 0 = p[i] := by simp [Array.getD, hs]
  rw [e]
  have : p[i] ∈ (List.range n).toArray := h.perm.mem_iff.mp (Array.getElem_mem hs)
  simpa using this
theorem Pm.ne {p : Array Nat} (h : Pm n key p) {i j : Nat} (hi : i < n) (hj : j < n) (hne : i ≠ j) : Kp key p i ≠ Kp key p j := by
  intro e
  have e' := h.inj _ _ (h.get hi) (h.get hj) e
  have si : i < p.size := by rw [h.size]; exact hi
  have sj : j < p.size := by rw [h.size]; exact hj
  have gi : p.getD i 0 = p[i] := by simp [Array.getD, si]
  have gj : p.getD j 0 = p[j] := by simp [Array.getD, sj]
  rw [gi, gj] at e'
  have nd : p.toList.Nodup := (Array.perm_iff_toList_perm.mp h.perm).nodup_iff.mpr (by simpa using List.nodup_range)
  exact hne ((List.getElem_inj (h₀ := by simpa using si) (h₁ := by simpa using sj) nd).mp (by simpa using e'))
theorem Pm.of {p q : Array Nat} (h : Pm n key p) (hq : q.Perm p) : Pm n key q := ⟨hq.trans h.perm, h.inj⟩
theorem Kp_get {p q : Array Nat} {i j : Nat} (h : p[i]? = q[j]?) : Kp key p i = Kp key q j := by
  unfold Kp
  rw [Array.getD_eq_getD_getElem?, Array.getD_eq_getD_getElem?, h]
theorem all_of_adj {f : Nat → Nat} {m : Nat} (h : ∀ i, i + 1 < m → f i < f (i + 1)) : ∀ j i, i < j → j < m → f i < f j
  | 0, i, hi, _ => absurd hi (Nat.not_lt_zero _)
  | j + 1, i, hi, hj => by
    rcases Nat.lt_or_ge i j with q | q
    · exact Nat.lt_trans (all_of_adj h j i q (by omega)) (h j hj)
    · have : i = j := by omega
      subst this
      exact h i hj

noncomputable def Cmp (n : Nat) (key : Nat → Nat) (cmp : Nat → Nat → (Bool → Shared → Prop) → Shared → Prop) (s : Shared) : Prop :=
  ∀ i j (C : Bool → Shared → Prop), i < n → j < n → C (decide (key i < key j)) s → cmp i j C s

theorem s_asc (hc : Cmp n key cmp s) {p : Array Nat} (hp : Pm n key p) {Q : Nat → Shared → Prop} : ∀ f m, 1 ≤ m → m + f ≤ n → (∀ i, i + 1 < m → Kp key p i < Kp key p (i + 1)) →
    (∀ m', m ≤ m' → m' ≤ m + f → (∀ i, i + 1 < m' → Kp key p i < Kp key p (i + 1)) → (m' = m + f ∨ Kp key p m' < Kp key p (m' - 1)) → Q m' s) → (kas_asc p f m).kasWp cmp Q s
  | 0, m, h1, hm, ha, h => h m (Nat.le_refl _) (Nat.le_refl _) ha (.inl rfl)
  | f + 1, m, h1, hm, ha, h => by
    refine hc _ _ _ (hp.get (by omega)) (hp.get (by omega)) ?_
    by_cases q : Kp key p m < Kp key p (m - 1)
    · rw [show decide (key (p.getD m 0) < key (p.getD (m - 1) 0)) = true from decide_eq_true q]
      exact h m (Nat.le_refl _) (by omega) ha (.inr q)
    · rw [show decide (key (p.getD m 0) < key (p.getD (m - 1) 0)) = false from decide_eq_false q]
      refine s_asc hc hp f (m + 1) (by omega) (by omega) (fun i hi => ?_) (fun m' g1 g2 g3 g4 => h m' (by omega) (by omega) g3 (g4.imp (by omega) id))
      rcases Nat.lt_or_ge (i + 1) m with r | r
      · exact ha i r
      · have e : i = m - 1 := by omega
        subst e
        have := hp.ne (i := m - 1) (j := m) (by omega) (by omega) (by omega)
        rw [show m - 1 + 1 = m by omega]
        omega
theorem s_desc (hc : Cmp n key cmp s) {p : Array Nat} (hp : Pm n key p) {Q : Array Nat × Nat × Nat → Shared → Prop} : ∀ f m, 1 ≤ m → m + f ≤ n → (∀ i, i + 1 < m → Kp key p (i + 1) < Kp key p i) →
    (∀ m', m ≤ m' → m' ≤ m + f → (∀ i, i + 1 < m' → Kp key p (i + 1) < Kp key p i) → Q (p, m', 0) s) → (kas_desc f p m 0).kasWp cmp Q s
  | 0, m, h1, hm, ha, h => h m (Nat.le_refl _) (Nat.le_refl _) ha
  | f + 1, m, h1, hm, ha, h => by
    refine hc _ _ _ (hp.get (by omega)) (hp.get (by omega)) ?_
    by_cases q : Kp key p m < Kp key p (m - 1)
    · rw [show decide (key (p.getD m 0) < key (p.getD (m - 1) 0)) = true from decide_eq_true q]
      refine s_desc hc hp f (m + 1) (by omega) (by omega) (fun i hi => ?_) (fun m' g1 g2 g3 => h m' (by omega) (by omega) g3)
      rcases Nat.lt_or_ge (i + 1) m with r | r
      · exact ha i r
      · have e : i = m - 1 := by omega
        subst e
        rw [show m - 1 + 1 = m by omega]
        exact q
    · rw [show decide (key (p.getD m 0) < key (p.getD (m - 1) 0)) = false from decide_eq_false q]
      refine hc _ _ _ (hp.get (by omega)) (hp.get (by omega)) ?_
      have := hp.ne (i := m - 1) (j := m) (by omega) (by omega) (by omega)
      rw [show decide (key (p.getD (m - 1) 0) < key (p.getD m 0)) = true from decide_eq_true (by unfold Kp at this q; omega)]
      exact h m (Nat.le_refl _) (by omega) ha
theorem s_count (hc : Cmp n key cmp s) {p : Array Nat} (hp : Pm n key p) (h2 : 2 ≤ n) {Q : Nat × Array Nat → Shared → Prop}
    (h : ∀ m q, 1 ≤ m → m ≤ n → Pm n key q → (∀ i, i + 1 < m → Kp key q i < Kp key q (i + 1)) → Q (m, q) s) : (kas_count n p).kasWp cmp Q s := by
  unfold kas_count
  rw [KasT.kasWp_bind]
  refine s_asc hc hp (n - 1) 1 (Nat.le_refl _) (by omega) (fun i hi => by omega) fun m g1 g2 g3 g4 => ?_
  by_cases e : m = n
  · subst e
    rw [if_pos (by simp)]
    exact h m p g1 (Nat.le_refl _) hp g3
  · rw [if_neg (by simpa using e)]
    by_cases q : m > 1
    · rw [if_pos q]
      refine hc _ _ _ (hp.get (by omega)) (hp.get (by omega)) ?_
      have := all_of_adj g3 (m - 1) 0 (by omega) (by omega)
      rw [show decide (key (p.getD 0 0) < key (p.getD (m - 1) 0)) = true from decide_eq_true this]
      exact h m p g1 (by omega) hp g3
    · rw [if_neg q]
      have e1 : m = 1 := by omega
      subst e1
      have g4 := g4.resolve_left (by omega)
      unfold kas_descPart
      rw [KasT.kasWp_bind]
      refine s_desc hc hp (n - (1 + 1)) (1 + 1) (by omega) (by omega) (fun i hi => ?_) fun m' k1 k2 k3 => ?_
      · have : i = 0 := by omega
        subst this; exact g4
      · dsimp only
        rw [if_neg (by omega)]
        unfold kas_tail3
        rw [KasT.kasWp_bind]
        have hms : m' ≤ p.size := by rw [hp.size]; omega
        have hr : Pm n key (kas_rev p 0 m') := hp.of (mirror_perm _ _ _ _)
        have kr : ∀ k, k < m' → Kp key (kas_rev p 0 m') k = Kp key p (m' - 1 - k) := fun k hk => by
          have := getElem?_mirror_all (xs := p) (i := 0) hms k
          rw [if_pos ⟨Nat.zero_le _, hk⟩, Nat.zero_add] at this
          exact Kp_get this
        refine s_asc hc hr (n - m') m' (by omega) (by omega) (fun i hi => ?_) fun m2 j1 j2 j3 j4 => ?_
        · rw [kr i (by omega), kr (i + 1) hi]
          have := k3 (m' - 1 - (i + 1)) (by omega)
          rw [show m' - 1 - (i + 1) + 1 = m' - 1 - i by omega] at this
          exact this
        · exact h m2 _ (by omega) (by omega) hr j3
theorem s_place (hc : Cmp n key cmp s) {p : Array Nat} (hp : Pm n key p) {k : Nat} (hk : k < n) {Q : Nat → Shared → Prop} (hs : ∀ i j, i < j → j < k → Kp key p i < Kp key p j) : ∀ f l r, l ≤ r → r ≤ k → r - l ≤ f →
    (∀ i, i < l → Kp key p i < Kp key p k) → (∀ i, r ≤ i → i < k → Kp key p k < Kp key p i) →
    (∀ l', l' ≤ k → (∀ i, i < l' → Kp key p i < Kp key p k) → (∀ i, l' ≤ i → i < k → Kp key p k < Kp key p i) → Q l' s) → (kas_place p k f l r).kasWp cmp Q s
  | 0, l, r, h1, h2, h3, h4, h5, h => by
    have : l = r := by omega
    subst this
    exact h l h2 h4 h5
  | f + 1, l, r, h1, h2, h3, h4, h5, h => by
    unfold kas_place
    by_cases q : l ≥ r
    · rw [if_pos q]
      have : l = r := by omega
      subst this
      exact h l h2 h4 h5
    · rw [if_neg q]
      refine hc _ _ _ (hp.get hk) (hp.get (by omega)) ?_
      by_cases w : Kp key p k < Kp key p ((l + r) / 2)
      · rw [show decide (key (p.getD k 0) < key (p.getD ((l + r) / 2) 0)) = true from decide_eq_true w]
        refine s_place hc hp hk hs f l ((l + r) / 2) (by omega) (by omega) (by omega) h4 (fun i g1 g2 => ?_) h
        rcases Nat.lt_or_ge ((l + r) / 2) i with r1 | r1
        · exact Nat.lt_trans w (hs _ _ r1 g2)
        · have : i = (l + r) / 2 := by omega
          subst this; exact w
      · rw [show decide (key (p.getD k 0) < key (p.getD ((l + r) / 2) 0)) = false from decide_eq_false w]
        have hne := hp.ne (i := k) (j := (l + r) / 2) hk (by omega) (by omega)
        refine s_place hc hp hk hs f ((l + r) / 2 + 1) r (by omega) (by omega) (by omega) (fun i g1 => ?_) h5 h
        rcases Nat.lt_or_ge i ((l + r) / 2) with r1 | r1
        · exact Nat.lt_trans (hs _ _ r1 (by omega)) (by omega)
        · have : i = (l + r) / 2 := by omega
          subst this; omega
theorem s_bin (hc : Cmp n key cmp s) {Q : Array Nat → Shared → Prop} : ∀ f (p : Array Nat) k, Pm n key p → 1 ≤ k → k + f = n → (∀ i j, i < j → j < k → Kp key p i < Kp key p j) →
    (∀ q, Pm n key q → (∀ i j, i < j → j < n → Kp key q i < Kp key q j) → Q q s) → (kas_bin f p k).kasWp cmp Q s
  | 0, p, k, hp, h1, hk, hs, h => by
    have : k = n := by omega
    subst this
    exact h p hp hs
  | f + 1, p, k, hp, h1, hk, hs, h => by
    unfold kas_bin
    rw [KasT.kasWp_bind]
    refine s_place hc hp (by omega) hs k 0 k (Nat.zero_le _) (Nat.le_refl _) (by omega) (fun i hi => by omega) (fun i g1 g2 => by omega) fun l hl h4 h5 => ?_
    have hks : k < p.size := by rw [hp.size]; omega
    refine s_bin hc f _ (k + 1) (hp.of (bubble_perm _ _ _)) (by omega) (by omega) (fun i j hij hj => ?_) h
    have kb : ∀ x, Kp key (bubble p k (k - l)) x = if x = l then Kp key p k else if l < x ∧ x ≤ k then Kp key p (x - 1) else Kp key p x := fun x => by
      have e := getElem?_bubble hks (k - l) (by omega) x
      rw [show k - (k - l) = l by omega] at e
      by_cases a : x = l
      · rw [if_pos a] at e ⊢; exact Kp_get e
      · rw [if_neg a] at e ⊢
        by_cases b : l < x ∧ x ≤ k
        · rw [if_pos b] at e ⊢; exact Kp_get e
        · rw [if_neg b] at e ⊢; exact Kp_get e
    rw [kb, kb]
    repeat' split
    all_goals first
      | (exfalso; omega)
      | exact h4 _ (by omega)
      | exact h5 _ (by omega) (by omega)
      | exact hs _ _ (by omega) (by omega)
theorem s_sort (hc : Cmp n key cmp s) (hi : ∀ i j, i < n → j < n → key i = key j → i = j) (h2 : 2 ≤ n) {Q : Array Nat → Shared → Prop}
    (h : ∀ q, Pm n key q → (∀ i j, i < j → j < n → Kp key q i < Kp key q j) → Q q s) : (kas_sort n).kasWp cmp Q s := by
  unfold kas_sort
  rw [KasT.kasWp_bind]
  refine s_count hc ⟨.refl _, hi⟩ h2 fun m q g1 g2 g3 g4 => ?_
  dsimp only
  have g5 := fun i j a b => all_of_adj (f := Kp key q) (m := m) g4 j i a b
  by_cases w : m < n
  · rw [if_pos w, Nat.max_eq_left g1]
    exact s_bin hc (n - m) q m g3 g1 (by omega) g5 h
  · rw [if_neg w]
    have : m = n := by omega
    subst this
    exact h q g3 g5
end
end Mine

namespace Mine
open PySem PySem.W PySem.Calls PyProof.Rows

section
variable {prog : Program} {w : World} {A : Around} {E : Value → Shared → Prop} {s : Shared}
theorem own_list_sort {a : Addr} {vs : List Value} {n : Nat} {P : PySem.Fin → Shared → Prop} {F : Array Nat → Prop} (ho : s.heap.get? a = some (seqObj "list" vs.toArray n)) (h2 : 2 ≤ vs.length) (h64 : vs.length < 64)
    (ask : ∀ h', (∀ b o, b ≠ a → s.heap.get? b = some o → h'.get? b = some o) → wpAny (model prog w) A (keyKind' vs.toArray) (fun κ s' => s' = { s with heap := h' } ∧ (kas_sort vs.length).kasWp (kas_ask prog w A κ vs) (fun p s'' => s'' = { s with heap := h' } ∧ F p) { s with heap := h' }) (fun _ _ => False) { s with heap := h' })
    (h : ∀ p h' c, F p → (∀ b o, b ≠ a → s.heap.get? b = some o → h'.get? b = some o) → h'.get? a = some (seqObj "list" (p.toList.map fun i => vs.getD i Value.none).toArray c) → P (.done (.ret .none)) { s with heap := h' }) :
    wpAny (model prog w) A (Builtin.«list.sort» ⟨[.ref a], []⟩) P E s := by
  have ha : a < s.heap.objs.size := Heap.lt_size ho
  obtain ⟨e1, ho1⟩ : ∃ e1, (s.heap.update a (Obj.mapSeq fun _ => (#[] : Array Value))).get? a = some (seqObj "list" #[] e1) := ⟨_, get?_update_seq ho fun _ => #[]⟩
  have k1 : ∀ b o, b ≠ a → s.heap.get? b = some o → (((s.heap.update a (Obj.mapSeq fun _ => (#[] : Array Value))).push (seqObj "tuple" vs.toArray 0)).push (seqObj "list" #[] 0)).get? b = some o := fun b o hb e =>
    Heap.get?_push_of_some _ (Heap.get?_push_of_some _ ((Heap.get?_update_other _ _ (Ne.symm hb)).trans e))
  have o3 : (((s.heap.update a (Obj.mapSeq fun _ => (#[] : Array Value))).push (seqObj "tuple" vs.toArray 0)).push (seqObj "list" #[] 0)).get? a = some (seqObj "list" #[] e1) := Heap.get?_push_of_some _ (Heap.get?_push_of_some _ ho1)
  have ask := ask _ k1
  rw [list_sort_plain]
  refine wpAny_bind (listItems_at ho rfl ?_)
  refine wpAny_bind (listUpdate_at ho rfl ?_ (by rw [List.size_toArray, sizeLine_eq]; omega) (Nat.zero_le _))
  refine wpAny_bind (seqEpoch_at ho1 rfl ?_)
  refine wpAny_bind (wpAny_newTuple ?_ (by show vs.length ≤ _; rw [sizeLine_eq]; omega))
  refine wpAny_bind (wpAny_newList ?_ (Nat.zero_le _))
  refine wpAny_holding ?_
  show wpAny (model prog w) A _ P E { s with heap := ((s.heap.update a (Obj.mapSeq fun _ => (#[] : Array Value))).push (seqObj "tuple" vs.toArray 0)).push (seqObj "list" #[] 0) }
  dsimp only
  have hn2 : ¬ vs.toArray.size < 2 := by rw [List.size_toArray]; omega
  rw [if_neg hn2, if_neg hn2]
  generalize ((s.heap.update a (Obj.mapSeq fun _ => (#[] : Array Value))).push (seqObj "tuple" vs.toArray 0)).push (seqObj "list" #[] 0) = H at k1 o3 ask ⊢
  refine wpAny_bind (wpAny_mono ask (fun κ s0 hk => ?_) fun _ _ x => x.elim)
  obtain ⟨rfl, hk⟩ := hk
  refine wpAny_bind (wpAny_mono (kat_run (Q := fun st' s' => ∃ p : Array Nat, p.size = vs.length ∧ arrOf st' = p.map (kas_item (vs.toArray.zip vs.toArray)) ∧ failedOf st' = none ∧ s' = { s with heap := H } ∧ F p)
    rfl h2 h64 (fun p' st' s' a1 a2 a3 a4 => ⟨p', a1, a2, a3, a4⟩) hk) ?_ fun _ _ e => e)
  rintro ⟨⟨⟩, st'⟩ s' ⟨p, hp, har, hf, rfl, hF⟩
  dsimp only
  have hout := kat_snds rfl har
  have hsz : (List.toArray (p.toList.map fun i => vs.getD i Value.none)).size = vs.length := by rw [List.size_toArray, List.length_map, Array.length_toList, hp]
  rw [hout]
  obtain ⟨c2, hc2⟩ : ∃ c2, (H.update a (Obj.mapSeq fun _ => List.toArray (p.toList.map fun i => vs.getD i Value.none))).get? a = some (seqObj "list" (List.toArray (p.toList.map fun i => vs.getD i Value.none)) c2) := ⟨_, get?_update_seq o3 fun _ => List.toArray (p.toList.map fun i => vs.getD i Value.none)⟩
  refine wpAny_bind (seqEpoch_at o3 rfl ?_)
  refine wpAny_bind (listUpdate_at o3 rfl ?_ (Nat.zero_le _) (Nat.le_trans (Nat.le_of_eq hsz) (by rw [sizeLine_eq]; omega)))
  rw [hf]
  simp only [bne_self_eq_false, Bool.false_eq_true, if_false]
  refine wpAny_pure (h p _ c2 hF (fun b o hb e => (Heap.get?_update_other _ _ (Ne.symm hb)).trans (k1 b o hb e)) hc2)
end

theorem txt_lt : ∀ m < 32, ∀ n < 32, decide ((txt m).cps.toList < (txt n).cps.toList) = decide (m < n) := by decide +kernel
theorem txt_beq : ∀ m < 32, ∀ n < 32, decide (txt m = txt n) = decide (m = n) := by decide +kernel

section
variable {c : Cx} {σ τ ρ : Sig} {X X' : List Addr} {s s₁ s₂ s' : Shared} {it a C : Addr} {target : Expr} {env : Env} {f : Ob → Sig} {K : Frag}
noncomputable abbrev rowI (p : Nat × Int) : D := .tup [.str (txt p.1), .int p.2]
theorem rowI_at {bad : List Addr} {vs : List Value} {ks : List (Nat × Int)} (q : c.DVs s bad vs (ks.map rowI)) {i : Nat} (hi : i < ks.length) :
    ∃ b n t u, vs.getD i Value.none = .ref b ∧ s.heap.get? b = some (tupObj [.str (txt (ks.getD i (0, 0)).1) t, .int (ks.getD i (0, 0)).2 u] n) := by
  have e : (ks.map rowI)[i]? = some (rowI ks[i]) := by simp [hi]
  obtain ⟨v, hv, r⟩ := q.get e
  have e2 : ks.getD i (0, 0) = ks[i] := by simp [hi]
  obtain ⟨b, ws, n, rfl, eb, nb, r⟩ := DV.tX r
  obtain ⟨_, _, rfl, r₁, r⟩ := DVs.cX r
  obtain ⟨_, _, rfl, r₂, r⟩ := DVs.cX r
  obtain rfl := DVs.zX r; obtain ⟨t, rfl⟩ := DV.sX r₁; obtain ⟨u, rfl⟩ := DV.iX r₂
  refine ⟨b, n, t, u, by rw [List.getD_eq_getElem?_getD, hv]; rfl, by rw [e2]; exact eb⟩

theorem rowI_tups {bad : List Addr} : ∀ {ks : List (Nat × Int)} {vs : List Value}, c.DVs s bad vs (ks.map rowI) → ∃ fs, KatTups s.heap vs fs ∧ fs.length = vs.length ∧ ∀ v ∈ fs, ∃ x t, v = .str x t
  | [], _, h => by cases h; exact ⟨[], .nil, rfl, fun _ h => nomatch h⟩
  | k :: ks, _, h => by
    cases h with
    | cons r q =>
      obtain ⟨fs, h1, h2, h3⟩ := rowI_tups q
      obtain ⟨_, _, _, rfl, e, nb, r⟩ := DV.tX r
      obtain ⟨_, _, rfl, r₁, r⟩ := DVs.cX r
      obtain ⟨t, rfl⟩ := DV.sX r₁
      refine ⟨.str (txt k.1) t :: fs, .cons e rfl rfl rfl h1, by simp [h2], fun v hv => ?_⟩
      rcases List.mem_cons.mp hv with rfl | hv
      · exact ⟨_, _, rfl⟩
      · exact h3 v hv
theorem rows_pick {bad : List Addr} {ks : List (Nat × Int)} {vs : List Value} (q : c.DVs s bad vs (ks.map rowI)) : ∀ {l : List Nat}, (∀ i ∈ l, i < ks.length) → c.DVs s bad (l.map fun i => vs.getD i Value.none) ((l.map fun i => ks.getD i (0, 0)).map rowI)
  | [], _ => .nil
  | i :: l, h => by
    have hi := h i (.head _)
    have e : (ks.map rowI)[i]? = some (rowI (ks.getD i (0, 0))) := by simp [hi]
    obtain ⟨v, hv, r⟩ := q.get e
    refine .cons ?_ (rows_pick q fun j hj => h j (.tail _ hj))
    show c.DV s bad (vs.getD i Value.none) (rowI (ks.getD i (0, 0)))
    rw [List.getD_eq_getElem?_getD, hv]
    exact r
theorem range_pick {ks : List (Nat × Int)} : ((List.range ks.length).map fun i => ks.getD i (0, 0)) = ks := by
  refine List.ext_getElem (by simp) fun i h1 h2 => ?_
  simp [h2]
theorem looks_str {M : Model} {h : Heap} {x : Str} {t : Tok} : Looks M h (typeOf (.str x t)) (.type "str") := Looks.of_pure rfl

theorem sorted_m {d : D} {ks : List (Nat × Int)} {Q : D → Sig → Prop} (h₁ : Seqs σ d (ks.map rowI)) (h32 : ∀ p ∈ ks, p.1 < 32) (hnd : (ks.map (·.1)).Nodup) (h2 : 2 ≤ ks.length) (h64 : ks.length < 64)
    (h : ∀ out : List (Nat × Int), out.Perm ks → out.Pairwise (fun a b => a.1 < b.1) → Q (.lst (out.map rowI)) σ) : WL c c.DV (fun vs => call (.builtin "sorted") vs) [d] σ Q := fun X s vs0 S r => by
  obtain ⟨_, _, rfl, r₁, r⟩ := DVs.cX r
  (first | obtain ⟨_, rfl⟩ := DV.iX r | obtain ⟨_, rfl⟩ := DV.sX r | obtain rfl := DV.nX r | obtain rfl := DV.bX r | obtain rfl := DV.vX r | obtain rfl := DVs.zX r | cases r)
  obtain ⟨l, vs, n, rfl, el, q⟩ := h₁.at S r₁
  have hl := isList_lst el
  have hlen : vs.length = ks.length := by rw [q.length, List.length_map]
  refine Calls.call_function_entry kind_sorted plain_sorted entry_sorted (args_sorted1 _) ?_
  unfold Builtin.«sorted»
  refine wpAny_bind (m := checkCount "sorted" 1 1 _) (wpAny_pure ?_)
  refine wpAny_bind (collect_list hl ?_ (by rw [sizeLine_eq]; omega))
  refine wpAny_bind (wpAny_newList ?_ (by rw [sizeLine_eq]; omega))
  have hsz : ((s.heap.push (seqObj "list" #[] 0)).update s.heap.objs.size (Obj.mapSeq (· ++ vs.toArray))).objs.size = s.heap.objs.size + 1 := by
    rw [Heap.size_update, size_push']
  have hoL : (((s.heap.push (seqObj "list" #[] 0)).update s.heap.objs.size (Obj.mapSeq (· ++ vs.toArray))).push (seqObj "list" vs.toArray 0)).get? (s.heap.objs.size + 1) = some (seqObj "list" vs.toArray 0) := by
    rw [← hsz]; exact Heap.get?_push_size _ rfl
  have keep : ∀ b o, s.heap.get? b = some o → (((s.heap.push (seqObj "list" #[] 0)).update s.heap.objs.size (Obj.mapSeq (· ++ vs.toArray))).push (seqObj "list" vs.toArray 0)).get? b = some o := fun b o q => by
    have hlt : b < s.heap.objs.size := Heap.lt_size q
    rw [Heap.get?_push_ne _ _ _ (by rw [hsz]; exact Nat.ne_of_lt (Nat.lt_succ_of_lt hlt)), Heap.get?_update_ne _ _ _ _ (Nat.ne_of_lt hlt), Heap.get?_push_ne _ _ _ (Nat.ne_of_lt hlt)]
    exact q
  show wpAny _ _ _ _ _ { s with heap := ((s.heap.push (seqObj "list" #[] 0)).update s.heap.objs.size (Obj.mapSeq (· ++ vs.toArray))).push (seqObj "list" vs.toArray 0) }
  rw [hsz]
  generalize ((s.heap.push (seqObj "list" #[] 0)).update s.heap.objs.size (Obj.mapSeq (· ++ vs.toArray))).push (seqObj "list" vs.toArray 0) = H at hoL keep ⊢
  have nD : ∀ b o, s.heap.get? b = some o → b ≠ s.heap.objs.size + 1 := fun b o e => Nat.ne_of_lt (Nat.lt_succ_of_lt (Heap.lt_size e))
  refine wpAny_bind (wpAny_holding (wpAny_call_entry slot_list_sort ⟨_, hoL, rfl⟩ entry_list_sort ?body (args_list_sort _)))
  case body =>
    refine own_list_sort (s := { s with heap := H }) (F := fun p => Pm ks.length (fun i => (ks.getD i (0, 0)).1) p ∧ ∀ i j, i < j → j < ks.length → Kp (fun i => (ks.getD i (0, 0)).1) p i < Kp (fun i => (ks.getD i (0, 0)).1) p j) hoL (by omega) (by omega) (fun h' k' => ?_) (fun p h' c' hF k' hD => ?_)
    · have g : Grow s (X ++ adrs σ) { s with heap := h' } (X ++ adrs σ) := ⟨fun b o _ e => k' b o (nD b o e) (keep b o e), fun _ _ _ hb => hb, Nat.le_refl _⟩
      have q' := q.grow g
      obtain ⟨fs, t1, t2, t3⟩ := rowI_tups q'
      refine kat_kind (T := .type "str") t1 (by omega) (fun v hv => by obtain ⟨x, t, rfl⟩ := t3 v hv; exact looks_str) rfl ⟨rfl, ?_⟩
      have inj : ∀ i j, i < ks.length → j < ks.length → (ks.getD i (0, 0)).1 = (ks.getD j (0, 0)).1 → i = j := fun i j hi hj e => by
        have e1 : (ks.getD i (0, 0)).1 = (ks.map (·.1))[i]'(by simpa using hi) := by simp [hi]
        have e2 : (ks.getD j (0, 0)).1 = (ks.map (·.1))[j]'(by simpa using hj) := by simp [hj]
        rw [e1, e2] at e
        exact (List.getElem_inj hnd).mp e
      have m32 : ∀ i, i < ks.length → (ks.getD i (0, 0)).1 < 32 := fun i hi => by
        have e1 : ks.getD i (0, 0) = ks[i] := by simp [hi]
        rw [e1]
        exact h32 _ (List.getElem_mem hi)
      rw [hlen]
      refine s_sort (n := ks.length) (key := fun i => (ks.getD i (0, 0)).1) (fun i j C hi hj hC => ?_) inj h2 (fun p hp hs => ⟨rfl, hp, hs⟩)
      obtain ⟨b1, n1, u1, w1, e1, g1⟩ := rowI_at q' hi
      obtain ⟨b2, n2, u2, w2, e2, g2⟩ := rowI_at q' hj
      unfold kas_ask
      rw [e1, e2]
      refine kat_lt (b := true) g1 rfl g2 rfl ?_
      refine kat_cons (wpAny_eqBool_str ?_)
      rw [txt_beq _ (m32 i hi) _ (m32 j hj)]
      by_cases hm : (ks.getD i (0, 0)).1 = (ks.getD j (0, 0)).1
      · have := inj i j hi hj hm
        subst this
        rw [decide_eq_true rfl]
        refine kat_yes (kat_cons (wpAny_eqBool_int ?_))
        rw [beq_self_eq_true]
        refine kat_yes (kat_nil ?_)
        have e0 : decide ((ks.getD i (0, 0)).1 < (ks.getD i (0, 0)).1) = false := decide_eq_false (Nat.lt_irrefl _)
        rw [e0] at hC
        exact hC
      · rw [decide_eq_false hm]
        refine kat_no (oneLt_str ?_)
        rw [txt_lt _ (m32 i hi) _ (m32 j hj)]
        exact hC
    · obtain ⟨hp, hs⟩ := hF
      have g : Grow s (X ++ adrs σ) { s with heap := h' } (X ++ adrs σ) := ⟨fun b o _ e => k' b o (nD b o e) (keep b o e), fun _ _ _ hb => hb, Nat.le_refl _⟩
      have q' := q.grow g
      have pl : p.toList.Perm (List.range ks.length) := by simpa using Array.perm_iff_toList_perm.mp hp.perm
      have pm : ∀ i ∈ p.toList, i < ks.length := fun i hi => List.mem_range.mp (pl.mem_iff.mp hi)
      refine ⟨_, rfl, wpAny_pure ⟨_, rfl, .lst ((p.toList.map fun i => ks.getD i (0, 0)).map rowI), σ, h _ ?_ ?_, .lst hD ?_ (rows_pick q' pm), S.ext (fun b o e => k' b o (nD b o e) (keep b o e)) (Nat.le_refl _), ⟨rfl, fun b o _ e => k' b o (nD b o e) (keep b o e), fun _ ha => .inl ha, Nat.le_refl _⟩⟩⟩
      · have := pl.map fun i => ks.getD i (0, 0)
        rw [range_pick] at this
        exact this
      · rw [List.pairwise_iff_getElem]
        intro i j hi hj hij
        have hz : p.toList.length = ks.length := by rw [pl.length_eq]; simp
        have hj' : j < ks.length := by rw [List.length_map] at hj; omega
        have := hs i j hij hj'
        have ei : p.getD i 0 = p.toList[i]'(by omega) := by
          have : i < p.size := by rw [← Array.length_toList]; omega
          simp [Array.getD, this]
        have ej : p.getD j 0 = p.toList[j]'(by omega) := by
          have : j < p.size := by rw [← Array.length_toList]; omega
          simp [Array.getD, this]
        unfold Kp at this
        rw [ei, ej] at this
        rw [List.getElem_map, List.getElem_map]
        exact this
      · intro hm
        rcases List.mem_append.mp hm with q | q
        · obtain ⟨o, e⟩ := S.xold _ q; exact nD _ o e rfl
        · obtain ⟨o, e⟩ := S.has q; exact nD _ o e rfl
end
end Mine

namespace Mine
open PySem PySem.W PySem.Calls PyProof.Rows
theorem slot_re_search : Slot "re.Pattern" "search" "re.Pattern.search" :=
  .of (owner := "re.Pattern") (n := "search") (by rw [typeLookup_type, builtinLookup_eq_fast]; kernel_rfl) (by decide +kernel) (by decide +kernel) (by decide +kernel)
    (by first | exact .inl (by decide +kernel) | exact .inr (by decide +kernel)) (by rw [isSubtype_type]; kernel_rfl)
theorem type_re_search : typeOf (.builtin "re.Pattern.search") = pure (.type "method_descriptor") := by show builtinType _ = _; rw [builtinType_eq_fast]; kernel_rfl
theorem entry_re_search : entryFor table "re.Pattern.search" = some Builtin.«re.Pattern.search» := entryFor_of_tree (by kernel_rfl)
theorem plainAttrs_re : PlainAttrs "re.Pattern" :=
  ⟨⟨"object.__getattribute__", by rw [typeLookup_type, builtinLookup_eq_fast]; kernel_rfl, by decide +kernel⟩, by rw [typeLookup_type, builtinLookup_eq_fast]; kernel_rfl⟩
theorem owner_re : Manifest.owners.lookup (String.ofList ['n', 'r', 'e', 't', 't', 'a', 'P', '.', 'e', 'r'].reverse) = some Manifest.sig_re_Pattern := by kernel_rfl
theorem args_re_search (a b : Value) : argsOk "re.Pattern.search" ⟨[a, b], []⟩ := by
  unfold argsOk; rw [signature?_of (id := "re.Pattern.search") (n := ['h', 'c', 'r', 'a', 'e', 's']) (o := ['n', 'r', 'e', 't', 't', 'a', 'P', '.', 'e', 'r']) (by kernel_rfl) owner_re]; kernel_rfl
end Mine

namespace Mine
open PySem PySem.W PySem.Calls PyProof.Rows

/-- the machine ends without a match within k turns -/
noncomputable def fails : Nat → Sre.M → Bool
  | 0, _ => false
  | k + 1, m => match (m.runFor Builtin.Re.reTurnSteps).outcome with
    | some .failed => true
    | some _ => false
    | none => fails k (m.runFor Builtin.Re.reTurnSteps)
section
variable {M : Model} {A : Around} {E : Value → Shared → Prop} {s : Shared}
theorem drive_fails : ∀ {k n : Nat} {m : Sre.M}, fails k m = true → k ≤ n → wpAny M A (Builtin.Re.reDrive n m) (fun m' s' => m'.outcome = some .failed ∧ s' = s) E s
  | 0, _, _, h, _ => by cases h
  | k + 1, 0, _, _, hn => absurd hn (Nat.not_succ_le_zero _)
  | k + 1, n + 1, m, h, hn => by
    unfold Builtin.Re.reDrive
    unfold fails at h
    dsimp only
    cases ho : (m.runFor Builtin.Re.reTurnSteps).outcome with
    | none =>
      rw [ho] at h
      simp only [Option.isSome_none, Bool.false_eq_true, if_false]
      exact wpAny_bind (wpAny_rule (drive_fails h (Nat.le_of_succ_le_succ hn)))
    | some o =>
      rw [ho] at h
      cases o with
      | failed =>
        simp only [Option.isSome_some, if_true]
        exact wpAny_pure ⟨ho, rfl⟩
      | matched => cases h
      | stuck w => cases h
theorem rules_pass {f : Nat → Sem (ForInStep PUnit)} (hf : ∀ i, ∃ t : String, f i = (do rule t; pure (.yield ⟨⟩)) ∨ f i = pure (.yield ⟨⟩)) : ∀ (l : List Nat) {Q : PUnit → Shared → Prop}, Q ⟨⟩ s → wpAny M A (forIn l ⟨⟩ fun i _ => f i) Q E s
  | [], Q, h => by rw [List.forIn_nil]; exact wpAny_pure h
  | i :: l, Q, h => by
    rw [List.forIn_cons]
    obtain ⟨t, e | e⟩ := hf i
    · rw [e]; exact wpAny_bind (wpAny_bind (wpAny_rule (wpAny_pure (rules_pass hf l h))))
    · rw [e]; exact wpAny_bind (wpAny_pure (rules_pass hf l h))
theorem run_fails {k : Nat} {m : Sre.M} {Q : Option Sre.M → Shared → Prop} (h : fails k m = true) (hk : k ≤ 2 ^ 64) (hq : Q none s) : wpAny M A (Builtin.Re.reRunToEnd m) Q E s := by
  unfold Builtin.Re.reRunToEnd
  refine wpAny_bind (wpAny_mono (drive_fails h hk) (fun m' s' hm => ?_) fun _ _ e => e)
  obtain ⟨ho, rfl⟩ := hm
  refine wpAny_bind (rules_pass (fun i => ?_) _ ?_)
  · by_cases hs : m'.seen.has i = true
    · exact ⟨Sre.names.getD i "", .inl (by simp [hs])⟩
    · exact ⟨"", .inr (by simp [hs])⟩
  · rw [ho]; exact wpAny_pure hq
end
end Mine

namespace Mine
open PySem PySem.W PySem.Calls PyProof.Rows
section
variable {c : Cx} {σ τ ρ : Sig} {X X' : List Addr} {s s₁ s₂ s' : Shared}
theorem search_m {p t : Addr} {src x : Str} {tk tk2 : Tok} {fl : Int} {codes : List Value} {k : Nat} {Q : D → Sig → Prop}
    (hp : c.B.get? p = some { cls := .type "re.Pattern", data := .fields #[.str src tk, .int fl tk2, .int 0 0, .none, .none, .ref t, .int 0 0] }) (ht : c.B.get? t = some { cls := .type "tuple", data := .seq codes.toArray 0 })
    (hf : fails k (Sre.forSearch ((codes.toArray.map Builtin.Re.reRawOf).map (·.toNat)) x.cps 0 (min (0 : Int).toNat x.cps.size) (min (2 ^ 63 - 1 : Int).toNat x.cps.size) false) = true) (hk : k ≤ 2 ^ 64) (h : Q .none σ) :
    WL c c.DV (fun vs => call (.builtin "re.Pattern.search") vs) [.val (.ref p), .str x] σ Q := fun X s vs S r => by
  obtain ⟨_, _, rfl, r₁, r⟩ := DVs.cX r
  obtain ⟨_, _, rfl, r₂, r⟩ := DVs.cX r
  (first | obtain ⟨_, rfl⟩ := DV.iX r | obtain ⟨_, rfl⟩ := DV.sX r | obtain rfl := DV.nX r | obtain rfl := DV.bX r | obtain rfl := DV.vX r | obtain rfl := DVs.zX r | cases r); (first | obtain ⟨_, rfl⟩ := DV.iX r₁ | obtain ⟨_, rfl⟩ := DV.sX r₁ | obtain rfl := DV.nX r₁ | obtain rfl := DV.bX r₁ | obtain rfl := DV.vX r₁ | obtain rfl := DVs.zX r₁ | cases r₁); obtain ⟨u, rfl⟩ := DV.sX r₂
  have ep := S.keep _ _ hp
  have et := S.keep _ _ ht
  refine wpAny_call_entry slot_re_search ⟨_, ep, rfl⟩ entry_re_search ?_ (args_re_search _ _)
  unfold Builtin.«re.Pattern.search»
  have tgt : ∀ {P : Builtin.Re.ReTarget → Shared → Prop}, P { pattern := .ref p, string := .str x u, code := (codes.toArray.map Builtin.Re.reRawOf).map (·.toNat), text := x.cps, kind := 0, groups := 0, pos := min (0 : Int).toNat x.cps.size, lim := min (2 ^ 63 - 1 : Int).toNat x.cps.size } s →
      wpAny c.M c.A.in1 (Builtin.Re.reTarget "re.Pattern.search" "search" { pos := [Value.ref p, Value.str x u] }) P noE s := by
    intro P hP
    unfold Builtin.Re.reTarget
    refine wpAny_bind (m := Builtin.Re.reNamed _ _ _ _ _ _) (wpAny_pure (a := [some (Value.str x u), Option.none, Option.none]) ?_)
    refine wpAny_bind (wpAny_pure (wpAny_bind (wpAny_pure ?_)))
    refine wpAny_bind (wpAny_fieldsOf ep rfl ?_)
    unfold Builtin.Re.reTextOf
    refine wpAny_bind (wpAny_bind (wpAny_pure (a := some x) (wpAny_pure ?_)))
    show wpAny _ _ (Builtin.Re.reNoCollectionInside (.str x u) 0 >>= _) _ _ _
    refine wpAny_bind (wpAny_pure ?_)
    unfold Builtin.Re.reRawItems
    refine wpAny_bind (wpAny_bind (wpAny_seqItems et rfl (wpAny_pure ?_)))
    exact wpAny_pure hP
  refine wpAny_bind (tgt ?_)
  unfold Builtin.Re.reAnswer
  refine wpAny_bind (run_fails hf hk ?_)
  exact wpAny_pure ⟨_, rfl, post_here S .none h⟩
end
end Mine

namespace Mine
open PySem PySem.W PySem.Calls PyProof.Rows

/-- where every function starts: what the text's top has laid is there -/
structure Gd (c : Cx) : Prop where
  K : (laid c.w.params).In c.B
  top : ∃ mg mb, c.B.Ns mainGlobals mg ∧ c.B.Ns builtinsNs mb ∧ ∀ x : Str, x ≠ ("__name__" : Str) → mb x = bootBuiltins x
  nolimit : c.B.NoLimit
  hh : c.A.handled = none
  units : c.A.units ≤ 4 + 4 * c.A.depth
theorem Gd.deeper {c : Cx} (G : Gd c) (env : Env) : Gd (c.deeper env) := ⟨G.K, G.top, G.nolimit, G.hh, by have := G.units; show c.A.units + 3 ≤ 4 + 4 * (c.A.depth + 1); omega⟩

section
variable {c : Cx} {σ τ : Sig} {X : List Addr} {s s₁ : Shared} {env : Env}
theorem E_glob {x : Str} {pos : Pos} {v : Value} {Q : D → Sig → Prop} (G : Gd c) (e : nsIn (laid c.w.params) mainGlobals x = some (some v)) (hk : env.scope.kind = .function) (hg : env.globals = mainGlobals) (hl : env.kindOf x = some .globalImplicit)
    (hd : (x == ("__debug__" : Str)) = false) (h : Q (.val v) σ) : WE c (.Name x pos) env σ Q := fun X s S => by
  obtain ⟨mg, mb, g, b, hb⟩ := G.top
  exact Name_function_global hk hl (loadGlobal_global (hg ▸ g.keeps S.keep) (mg_of G.K g e) (post_here S (.val _) h)) hd
theorem E_blt {x : Str} {pos : Pos} {v : Value} {Q : D → Sig → Prop} (G : Gd c) (e : nsIn (laid c.w.params) mainGlobals x = some none) (hn : x ≠ ("__name__" : Str)) (hv : bootBuiltins x = some v) (hk : env.scope.kind = .function) (hg : env.globals = mainGlobals)
    (hbi : env.builtins = builtinsNs) (hl : env.kindOf x = some .globalImplicit) (hd : (x == ("__debug__" : Str)) = false) (h : Q (.val v) σ) : WE c (.Name x pos) env σ Q := fun X s S => by
  obtain ⟨mg, mb, g, b, hb⟩ := G.top
  exact Name_function_global hk hl (loadGlobal_builtin (hg ▸ g.keeps S.keep) (mg_none_of G.K g e) (hbi ▸ b.keeps S.keep) ((hb x hn).trans hv) (post_here S (.val _) h)) hd
theorem codeOf {qn : Str} {cd : Value} (G : Gd c) (h : codeIn (laid c.w.params) cd qn = true) : c.B.CodeRec cd qn := codeRec_of G.K h
theorem inF {body : List Stmt} {Q : Fl → Sig → Prop} (G : Gd c) (h : ∀ c₁ : Cx, Gd c₁ → c₁.A.depth = c.A.depth + 1 → WX c₁ body env σ Q) : WX (c.deeper env) body env σ Q := h _ (G.deeper _) rfl
theorem Gd.room (G : Gd c) (h : c.A.depth < 900) : c.A.units + 64 < cLine := by
  have := G.units
  show _ < 9900
  omega
/-- a name that the text's top has not laid, and what it means -/
noncomputable def Blt (P : Params) (x : Str) (v : Value) : Prop := nsIn (laid P) mainGlobals x = some none ∧ x ≠ ("__name__" : Str) ∧ bootBuiltins x = some v
theorem E_bltn {x : Str} {pos : Pos} {v : Value} {Q : D → Sig → Prop} (G : Gd c) (e : Blt c.w.params x v) (hk : env.scope.kind = .function) (hg : env.globals = mainGlobals)
    (hbi : env.builtins = builtinsNs) (hl : env.kindOf x = some .globalImplicit) (hd : (x == ("__debug__" : Str)) = false) (h : Q (.val v) σ) : WE c (.Name x pos) env σ Q := E_blt G e.1 e.2.1 e.2.2 hk hg hbi hl hd h
theorem gn_siftdown (P : Params) : nsIn (laid P) mainGlobals "_siftdown" = some (some (.ref 101)) := by kernel_rfl
theorem gn_siftup (P : Params) : nsIn (laid P) mainGlobals "_siftup" = some (some (.ref 108)) := by kernel_rfl
theorem gn_heappush (P : Params) : nsIn (laid P) mainGlobals "heappush" = some (some (.ref 87)) := by kernel_rfl
theorem gn_heappop (P : Params) : nsIn (laid P) mainGlobals "heappop" = some (some (.ref 94)) := by kernel_rfl
theorem gn_TupleComp (P : Params) : nsIn (laid P) mainGlobals "TupleComp" = some (some (.ref 62)) := by kernel_rfl
theorem gn_Headers (P : Params) : nsIn (laid P) mainGlobals "Headers" = some (some (.ref 252)) := by kernel_rfl
theorem gn_add_callers (P : Params) : nsIn (laid P) mainGlobals "add_callers" = some (some (.ref 73)) := by kernel_rfl
theorem gn_count_calls (P : Params) : nsIn (laid P) mainGlobals "count_calls" = some (some (.ref 80)) := by kernel_rfl
theorem gn_law_roads (P : Params) : nsIn (laid P) mainGlobals "_law_roads" = some (some (.ref 261)) := by kernel_rfl
theorem gn_law_pieces (P : Params) : nsIn (laid P) mainGlobals "_law_pieces" = some (some (.ref 266)) := by kernel_rfl
theorem gn_law_walk (P : Params) : nsIn (laid P) mainGlobals "_law_walk" = some (some (.ref 271)) := by kernel_rfl
theorem gn_law_table (P : Params) : nsIn (laid P) mainGlobals "_law_table" = some (some (.ref 276)) := by kernel_rfl
theorem gn_law_covers (P : Params) : nsIn (laid P) mainGlobals "_law_covers" = some (some (.ref 281)) := by kernel_rfl
theorem gn_law_tally (P : Params) : nsIn (laid P) mainGlobals "_law_tally" = some (some (.ref 286)) := by kernel_rfl
theorem gn_nre (P : Params) : nsIn (laid P) mainGlobals "_name_disallowed_re" = some (some (.ref 118)) := by kernel_rfl
theorem gn_vre (P : Params) : nsIn (laid P) mainGlobals "_value_disallowed_re" = some (some (.ref 123)) := by kernel_rfl
theorem gb_len (P : Params) : Blt P "len" (.builtin "len") := ⟨by kernel_rfl, by decide, by kernel_rfl⟩
theorem gb_range (P : Params) : Blt P "range" (.type "range") := ⟨by kernel_rfl, by decide, by kernel_rfl⟩
theorem gb_set (P : Params) : Blt P "set" (.type "set") := ⟨by kernel_rfl, by decide, by kernel_rfl⟩
theorem gb_sorted (P : Params) : Blt P "sorted" (.builtin "sorted") := ⟨by kernel_rfl, by decide, by kernel_rfl⟩
theorem gb_type (P : Params) : Blt P "type" (.type "type") := ⟨by kernel_rfl, by decide, by kernel_rfl⟩
theorem gb_str (P : Params) : Blt P "str" (.type "str") := ⟨by kernel_rfl, by decide, by kernel_rfl⟩
theorem gb_list (P : Params) : Blt P "list" (.type "list") := ⟨by kernel_rfl, by decide, by kernel_rfl⟩
theorem gb_tuple (P : Params) : Blt P "tuple" (.type "tuple") := ⟨by kernel_rfl, by decide, by kernel_rfl⟩
theorem gb_isinstance (P : Params) : Blt P "isinstance" (.builtin "isinstance") := ⟨by kernel_rfl, by decide, by kernel_rfl⟩
end
end Mine

namespace Mine
open PySem PySem.W PySem.Calls PyProof.Rows
local macro_rules | `(tactic| kd_mem) => `(tactic| first | with_reducible exact Hole.head | with_reducible assumption | with_reducible exact Hole.again (by with_reducible assumption) _ | with_reducible exact Hole.tail (by kd_mem))
local macro_rules | `(tactic| kd_in) => `(tactic| first | with_reducible exact LocGet.head | with_reducible exact LocGet.tail (by kd_in))
local macro_rules | `(tactic| kd_all) => `(tactic| first | with_reducible exact LocSet.head | with_reducible exact LocSet.tail (by kd_all))
local macro_rules | `(tactic| kts_caught) => `(tactic| first | with_reducible exact gn_siftdown _ | with_reducible exact gn_siftup _ | with_reducible exact gn_heappush _ | with_reducible exact gn_heappop _ | with_reducible exact gn_TupleComp _ | with_reducible exact gn_Headers _ | with_reducible exact gn_add_callers _ | with_reducible exact gn_count_calls _ | with_reducible exact gn_law_roads _ | with_reducible exact gn_law_pieces _ | with_reducible exact gn_law_walk _ | with_reducible exact gn_law_table _ | with_reducible exact gn_law_covers _ | with_reducible exact gn_law_tally _ | with_reducible exact gn_nre _ | with_reducible exact gn_vre _)
local macro_rules | `(tactic| keq_rows) => `(tactic| first | with_reducible exact gb_len _ | with_reducible exact gb_range _ | with_reducible exact gb_set _ | with_reducible exact gb_sorted _ | with_reducible exact gb_type _ | with_reducible exact gb_str _ | with_reducible exact gb_list _ | with_reducible exact gb_tuple _ | with_reducible exact gb_isinstance _)
local macro_rules | `(tactic| kbo_bools) => `(tactic| first
  | with_reducible refine X_nil ?_
  | with_reducible refine And.intro (sz_ok (by with_unfolding_all exact rfl)) ?_
  | with_reducible refine if_t ?_
  | with_reducible refine if_f ?_
  | with_reducible refine X_cons ?_
  | with_reducible refine S_Assign (by with_unfolding_all exact rfl) ?_
  | with_reducible refine S_AssignSub (by with_unfolding_all exact rfl) ?_
  | with_reducible refine S_AssignAttr (by with_unfolding_all exact rfl) ?_
  | with_reducible refine S_AugName ?_
  | with_reducible refine S_AugSub ?_
  | with_reducible refine S_If ?_
  | with_reducible refine S_Return ?_
  | with_reducible refine S_Break ?_
  | with_reducible refine S_Continue ?_
  | with_reducible refine S_Expr (by with_unfolding_all exact rfl) (by with_unfolding_all exact rfl) ?_
  | with_reducible refine E_str ?_
  | with_reducible refine E_int ?_
  | with_reducible refine E_bool ?_
  | with_reducible refine E_none ?_
  | with_reducible refine E_local (by with_unfolding_all exact rfl) (by with_unfolding_all exact rfl) (by with_unfolding_all exact rfl) (by kd_mem) (by with_unfolding_all exact rfl) (by kd_in) ?_
  | with_reducible refine E_cell (by with_unfolding_all exact rfl) (by with_unfolding_all exact rfl) (by with_unfolding_all exact rfl) (by with_unfolding_all exact rfl) (by kd_mem) ?_
  | with_reducible refine E_glob (by assumption) (by kts_caught) (by with_unfolding_all exact rfl) (by with_unfolding_all exact rfl) (by with_unfolding_all exact rfl) (by with_unfolding_all exact rfl) ?_
  | with_reducible refine E_bltn (by assumption) (by keq_rows) (by with_unfolding_all exact rfl) (by with_unfolding_all exact rfl) (by with_unfolding_all exact rfl) (by with_unfolding_all exact rfl) (by with_unfolding_all exact rfl) ?_
  | with_reducible refine E_Sub ?_
  | with_reducible refine E_BinOp ?_
  | with_reducible refine E_Compare (by with_unfolding_all exact rfl) ?_
  | with_reducible refine T_Compare (by with_unfolding_all exact rfl) ?_
  | with_reducible refine E_UnaryOp ?_
  | with_reducible refine T_Not ?_
  | with_reducible refine E_IfExp ?_
  | with_reducible refine T_and ?_
  | with_reducible refine T_and_nil ?_
  | with_reducible refine E_Tuple ?_
  | with_reducible refine I_cons (by with_unfolding_all exact rfl) ?_
  | with_reducible refine I_nil ?_
  | with_reducible refine add_i ?_
  | with_reducible refine sub_i ?_
  | with_reducible refine lt_i ?_
  | with_reducible refine gt_i ?_
  | with_reducible refine eq_i ?_
  | with_reducible refine iadd_i ?_
  | with_reducible refine neg_i ?_
  | with_reducible refine lt_s ?_
  | with_reducible refine in_s ?_
  | with_reducible refine notin_s ?_
  | with_reducible refine truthy_bool ?_
  | with_reducible refine A_Name ?_
  | with_reducible refine As_cons ?_
  | with_reducible refine As_nil ?_
  | with_reducible refine St_local (by with_unfolding_all exact rfl) (by with_unfolding_all exact rfl) (by kd_mem) (by with_unfolding_all exact rfl) (by kd_all) ?_
  | with_reducible refine L_local (by with_unfolding_all exact rfl) (by with_unfolding_all exact rfl) (by kd_mem) (by with_unfolding_all exact rfl) (by kd_in) ?_
  | with_reducible refine St_cell (by with_unfolding_all exact rfl) (by with_unfolding_all exact rfl) (by with_unfolding_all exact rfl) (by kd_mem) ?_)

/-! the heap -/
noncomputable abbrev sts (xs : List Str) : List D := xs.map .str
noncomputable def sdown : Nat → List Str → Nat → Str → List Str
  | 0, xs, pos, it => xs
  | n + 1, xs, pos, it => if 0 < pos then (if it.cps.toList < (xs.getD ((pos - 1) / 2) "").cps.toList then sdown n (xs.set pos (xs.getD ((pos - 1) / 2) "")) ((pos - 1) / 2) it else xs.set pos it) else xs.set pos it
theorem sts_get {xs : List Str} {p : Nat} (h : p < xs.length) : (sts xs)[p]? = some (.str (xs.getD p "")) := by simp [List.getD, h]

section
variable {c : Cx} {σ τ : Sig} {f : Ob → Sig} {X : List Addr} {s s₁ : Shared} {env : Env}

theorem spec_siftdown (G : Gd c) (hroom : c.A.depth < 900) {h : Addr} {xs : List Str} {pos : Nat} {it : Str} {Q : D → Sig → Prop} (hp : xs[pos]? = some it) (hsz : xs.length < 1000) (H : Hole h (.list (sts xs)) σ f)
    (hQ : Q .none (f (.list (sts (sdown (pos + 1) xs pos it))))) : WL c c.DV (fun vs => call (.ref 101) vs) [.val (.ref h), .int 0, .int pos] σ Q := by
  refine WC.call (call_F0 (ps := ["heap", "startpos", "pos"]) (ns := ["heap", "startpos", "pos", "newitem", "parentpos", "parent"]) (G.K 101 _ rfl) (by unfold recursionLimit; omega) G.nolimit (codeOf G (by kernel_rfl)) [some _, some _, some _, none, none, none] (by kernel_rfl) (WB.pure ?_) rfl (by kernel_rfl) fun L => inF G fun c₁ G₁ hd => ?_)
  · intro vals hl
    match vals, hl with
    | [a, b, d], _ => rfl
  have hpos : pos < xs.length := (List.getElem?_eq_some_iff.mp hp).1
  repeat kbo_bools
  refine sub_l (by intro _ _; with_unfolding_all rfl) (.ref (by kd_mem)) (by omega) (by omega) (d := .str it) (by simpa using hp) ?_
  repeat kbo_bools
  refine S_While (fun n σ' => ∃ xs' k o1 o2, n < k ∧ n < xs'.length ∧ xs'.length = xs.length ∧ sdown k xs' n it = sdown (pos + 1) xs pos it ∧
    σ' = (L, .ns ["heap", "startpos", "pos", "newitem", "parentpos", "parent"] [some (.val (.ref h)), some (.int 0), some (.int (n : Nat)), some (.str it), o1, o2]) :: f (.list (sts xs'))) ?_ pos ⟨xs, pos + 1, none, none, Nat.lt_succ_self _, hpos, rfl, rfl, by rw [← H.eq]⟩
  rintro n σ' ⟨xs', k, o1, o2, hk, hn, hl, hR, rfl⟩
  have H' := H.again (.list (sts xs'))
  obtain ⟨k', rfl⟩ : ∃ k', k = k' + 1 := ⟨k - 1, by omega⟩
  repeat kbo_bools
  by_cases hp0 : 0 < n
  · have e0 : decide ((0 : Int) < (n : Int)) = true := decide_eq_true (by omega)
    rw [e0]
    repeat kbo_bools
    refine shr_i (by omega) ?_
    have e1 : (((n : Int) - 1).fdiv (2 ^ (1 : Int).toNat)) = (((n - 1) / 2 : Nat) : Int) := by
      have : ((n : Int) - 1) = ((n - 1 : Nat) : Int) := by omega
      rw [this]
      rw [show (2 : Int) ^ (1 : Int).toNat = 2 by decide, Int.fdiv_eq_ediv_of_nonneg _ (by decide)]
      omega
    rw [e1]
    have hpp : (n - 1) / 2 < xs'.length := by omega
    repeat kbo_bools
    refine sub_l (by intro _ _; with_unfolding_all rfl) (.ref (by kd_mem)) (by omega) (by omega) (d := .str (xs'.getD ((n - 1) / 2) "")) (by rw [Int.toNat_natCast]; exact sts_get hpp) ?_
    repeat kbo_bools
    by_cases hlt : it.cps.toList < (xs'.getD ((n - 1) / 2) "").cps.toList
    · rw [decide_eq_true hlt]
      repeat kbo_bools
      refine set_l (by kd_mem) (by omega) (by omega) (by simp; omega) ?_
      repeat kbo_bools
      refine ⟨(n - 1) / 2, by omega, xs'.set n (xs'.getD ((n - 1) / 2) ""), k', some (.int (((n - 1) / 2 : Nat) : Int)), some (.str (xs'.getD ((n - 1) / 2) "")), by omega, by simpa using hpp, by simpa using hl, ?_, ?_⟩
      · rw [← hR]
        conv => rhs; unfold sdown
        rw [if_pos hp0, if_pos hlt]
      · rw [Int.toNat_natCast, sts, sts, List.map_set]
    · rw [decide_eq_false hlt]
      repeat kbo_bools
      refine set_l (by kd_mem) (by omega) (by omega) (by simp; omega) ?_
      repeat kbo_bools
      refine ⟨_, _, .next, .more .done, ?_⟩
      rw [← hR] at hQ
      unfold sdown at hQ
      rw [if_pos hp0, if_neg hlt] at hQ
      rw [Int.toNat_natCast]
      rw [sts, List.map_set] at hQ
      exact hQ
  · have e0 : decide ((0 : Int) < (n : Int)) = false := decide_eq_false (by omega)
    rw [e0]
    repeat kbo_bools
    refine set_l (by kd_mem) (by omega) (by omega) (by simp; omega) ?_
    repeat kbo_bools
    refine ⟨_, _, .next, .more .done, ?_⟩
    rw [← hR] at hQ
    unfold sdown at hQ
    rw [if_neg hp0] at hQ
    rw [Int.toNat_natCast]
    rw [sts, List.map_set] at hQ
    exact hQ
end

/-! the heap -/
noncomputable def hpush (xs : List Str) (it : Str) : List Str := sdown (xs.length + 1) (xs ++ [it]) xs.length it
/-- the lesser child -/
noncomputable def child (xs : List Str) (pos : Nat) : Nat := if 2 * pos + 2 < xs.length ∧ ¬ ((xs.getD (2 * pos + 1) "").cps.toList < (xs.getD (2 * pos + 2) "").cps.toList) then 2 * pos + 2 else 2 * pos + 1
/-- the least child goes up -/
noncomputable def sup : Nat → List Str → Nat → Str → List Str
  | 0, xs, pos, it => xs
  | n + 1, xs, pos, it => if 2 * pos + 1 < xs.length then sup n (xs.set pos (xs.getD (child xs pos) "")) (child xs pos) it else sdown (pos + 1) (xs.set pos it) pos it
noncomputable def hpop (xs : List Str) : Str × List Str :=
  match xs.getLast? with
  | none => ("", [])
  | some last => match xs.dropLast with
    | [] => (last, [])
    | y :: ys => (y, sup (ys.length + 2) (last :: ys) 0 last)

section
variable {c : Cx} {σ τ : Sig} {f : Ob → Sig} {X : List Addr} {s s₁ : Shared} {env : Env}

theorem spec_heappush (G : Gd c) (hroom : c.A.depth < 800) {h : Addr} {xs : List Str} {it : Str} {Q : D → Sig → Prop} (hsz : xs.length < 900) (H : Hole h (.list (sts xs)) σ f)
    (hQ : Q .none (f (.list (sts (hpush xs it))))) : WL c c.DV (fun vs => call (.ref 87) vs) [.val (.ref h), .str it] σ Q := by
  refine WC.call (call_F0 (ps := ["heap", "item"]) (ns := ["heap", "item"]) (G.K 87 _ rfl) (by unfold recursionLimit; omega) G.nolimit (codeOf G (by kernel_rfl)) [some _, some _] (by kernel_rfl) (WB.pure ?_) rfl (by kernel_rfl) fun L => inF G fun c₁ G₁ hd => ?_)
  · intro vals hl
    match vals, hl with
    | [a, b], _ => rfl
  have z := sizeLine_eq
  repeat kbo_bools
  refine E_Meth (by with_unfolding_all exact rfl) (by with_unfolding_all exact rfl) (by with_unfolding_all exact rfl) ?_
  repeat kbo_bools
  refine ⟨_, gm_append (.ref (by kd_mem)), ?_⟩
  repeat kbo_bools
  refine append_m (by kd_mem) (by simp; omega) ?_
  have e : sts xs ++ [.str it] = sts (xs ++ [it]) := by simp
  rw [e]
  have H' := H.again (.list (sts (xs ++ [it])))
  refine ⟨rfl, ?_⟩
  repeat kbo_bools
  refine E_CallF (by with_unfolding_all exact rfl) (by with_unfolding_all exact rfl) ?_
  repeat kbo_bools
  refine ⟨_, _, _, rfl, G₁.K 101 _ rfl, rfl, ?_⟩
  repeat kbo_bools
  refine E_CallB (by with_unfolding_all exact rfl) (by with_unfolding_all exact rfl) (by with_unfolding_all exact rfl) ?_
  repeat kbo_bools
  refine ⟨_, rfl, ?_⟩
  repeat kbo_bools
  refine len_l (.ref (by kd_mem)) (by simp; omega) ?_
  repeat kbo_bools
  have e2 : ((sts (xs ++ [it])).length : Int) - 1 = (xs.length : Nat) := by simp
  rw [e2]
  refine spec_siftdown G₁ (by omega) (xs := xs ++ [it]) (it := it) (by simp) (by simp; omega) (by kd_mem) ?_
  refine ⟨rfl, ?_⟩
  repeat kbo_bools
  exact ⟨_, _, .next, .more .done, hQ⟩
end

/-! the heap -/
section
variable {c : Cx} {σ τ : Sig} {f : Ob → Sig} {X : List Addr} {s s₁ : Shared} {env : Env}

theorem spec_siftup (G : Gd c) (hroom : c.A.depth < 800) {h : Addr} {xs : List Str} {it : Str} {Q : D → Sig → Prop} (hp : xs[0]? = some it) (hsz : xs.length < 900) (H : Hole h (.list (sts xs)) σ f)
    (hQ : Q .none (f (.list (sts (sup (xs.length + 1) xs 0 it))))) : WL c c.DV (fun vs => call (.ref 108) vs) [.val (.ref h), .int 0] σ Q := by
  refine WC.call (call_F0 (ps := ["heap", "pos"]) (ns := ["heap", "pos", "endpos", "startpos", "newitem", "childpos", "rightpos"]) (G.K 108 _ rfl) (by unfold recursionLimit; omega) G.nolimit (codeOf G (by kernel_rfl)) [some _, some _, none, none, none, none, none] (by kernel_rfl) (WB.pure ?_) rfl (by kernel_rfl) fun L => inF G fun c₁ G₁ hd => ?_)
  · intro vals hl
    match vals, hl with
    | [a, b], _ => rfl
  have z := sizeLine_eq
  have hpos : 0 < xs.length := (List.getElem?_eq_some_iff.mp hp).1
  repeat kbo_bools
  refine E_CallB (by with_unfolding_all exact rfl) (by with_unfolding_all exact rfl) (by with_unfolding_all exact rfl) ?_
  repeat kbo_bools
  refine ⟨_, rfl, ?_⟩
  repeat kbo_bools
  refine len_l (.ref (by kd_mem)) (by simp; omega) ?_
  rw [show (sts xs).length = xs.length by simp]
  repeat kbo_bools
  refine sub_l (by intro _ _; with_unfolding_all rfl) (.ref (by kd_mem)) (by omega) (by omega) (d := .str it) (by simpa using hp) ?_
  repeat kbo_bools
  refine mul_i (IntMulOk.of_left (by decide +kernel)) ?_
  repeat kbo_bools
  refine S_While (fun m σ' => ∃ xs' n o, m = xs.length - n ∧ n < xs'.length ∧ xs'.length = xs.length ∧ (∃ k, m < k ∧ sup k xs' n it = sup (xs.length + 1) xs 0 it) ∧
    σ' = (L, .ns ["heap", "pos", "endpos", "startpos", "newitem", "childpos", "rightpos"] [some (.val (.ref h)), some (.int (n : Nat)), some (.int (xs.length : Nat)), some (.int 0), some (.str it), some (.int ((2 * n + 1 : Nat) : Int)), o]) :: f (.list (sts xs'))) ?_ xs.length ⟨xs, 0, none, rfl, hpos, rfl, ⟨_, Nat.lt_succ_self _, rfl⟩, by rw [← H.eq]; rfl⟩
  rintro m σ' ⟨xs', n, o, rfl, hn, hl, ⟨k, hk, hR⟩, rfl⟩
  have H' := H.again (.list (sts xs'))
  obtain ⟨k', rfl⟩ : ∃ k', k = k' + 1 := ⟨k - 1, by omega⟩
  unfold sup at hR
  repeat kbo_bools
  by_cases hc : 2 * n + 1 < xs'.length
  · have e0 : decide ((((2 * n + 1 : Nat) : Int)) < ((xs.length : Nat) : Int)) = true := decide_eq_true (by omega)
    rw [e0]
    rw [if_pos hc] at hR
    iterate 7 kbo_bools
    have e1 : ((2 * n + 1 : Nat) : Int) + 1 = ((2 * n + 2 : Nat) : Int) := by omega
    rw [e1]
    kbo_bools
    have hch : child xs' n < xs'.length ∧ n < child xs' n := by unfold child; split <;> omega
    refine X_cons (W0.mono (Q := fun fl σ₂ => fl = .next ∧ σ₂ = (L, .ns ["heap", "pos", "endpos", "startpos", "newitem", "childpos", "rightpos"] [some (.val (.ref h)), some (.int (n : Nat)), some (.int (xs.length : Nat)), some (.int 0), some (.str it), some (.int ((child xs' n : Nat) : Int)), some (.int ((2 * n + 2 : Nat) : Int))]) :: f (.list (sts xs'))) ?_ ?_)
    · repeat kbo_bools
      by_cases hr : 2 * n + 2 < xs'.length
      · have e2 : decide ((((2 * n + 2 : Nat) : Int)) < ((xs.length : Nat) : Int)) = true := decide_eq_true (by omega)
        rw [e2]
        repeat kbo_bools
        refine sub_l (by intro _ _; with_unfolding_all rfl) (.ref (by kd_mem)) (by omega) (by omega) (d := .str (xs'.getD (2 * n + 1) "")) (by rw [Int.toNat_natCast]; exact sts_get hc) ?_
        repeat kbo_bools
        refine sub_l (by intro _ _; with_unfolding_all rfl) (.ref (by kd_mem)) (by omega) (by omega) (d := .str (xs'.getD (2 * n + 2) "")) (by rw [Int.toNat_natCast]; exact sts_get hr) ?_
        repeat kbo_bools
        by_cases hlt : (xs'.getD (2 * n + 1) "").cps.toList < (xs'.getD (2 * n + 2) "").cps.toList
        · rw [decide_eq_true hlt]
          refine if_f ?_
          repeat kbo_bools
          exact ⟨rfl, by rw [show child xs' n = 2 * n + 1 by unfold child; rw [if_neg (fun q => q.2 hlt)]]⟩
        · rw [decide_eq_false hlt]
          refine if_t ?_
          repeat kbo_bools
          exact ⟨rfl, by rw [show child xs' n = 2 * n + 2 by unfold child; rw [if_pos ⟨hr, hlt⟩]]⟩
      · have e2 : decide ((((2 * n + 2 : Nat) : Int)) < ((xs.length : Nat) : Int)) = false := decide_eq_false (by omega)
        rw [e2]
        repeat kbo_bools
        exact ⟨rfl, by rw [show child xs' n = 2 * n + 1 by unfold child; rw [if_neg (fun q => hr q.1)]]⟩
    · rintro fl σ₂ ⟨rfl, rfl⟩
      repeat kbo_bools
      refine sub_l (by intro _ _; with_unfolding_all rfl) (.ref (by kd_mem)) (by omega) (by omega) (d := .str (xs'.getD (child xs' n) "")) (by rw [Int.toNat_natCast]; exact sts_get hch.1) ?_
      repeat kbo_bools
      refine set_l (by kd_mem) (by omega) (by omega) (by simp; omega) ?_
      repeat kbo_bools
      refine mul_i (IntMulOk.of_left (by decide +kernel)) ?_
      repeat kbo_bools
      refine ⟨xs.length - child xs' n, by omega, xs'.set n (xs'.getD (child xs' n) ""), child xs' n, some (.int ((2 * n + 2 : Nat) : Int)), rfl, by simpa using hch.1, by simpa using hl, ⟨k', by omega, hR⟩, ?_⟩
      rw [Int.toNat_natCast, sts, sts, List.map_set, show (2 * (child xs' n : Int) + 1) = ((2 * child xs' n + 1 : Nat) : Int) by omega]
  · have e0 : decide ((((2 * n + 1 : Nat) : Int)) < ((xs.length : Nat) : Int)) = false := decide_eq_false (by omega)
    rw [e0]
    rw [if_neg hc] at hR
    repeat kbo_bools
    refine set_l (by kd_mem) (by omega) (by omega) (by simp; omega) ?_
    have e1 : (sts xs').set (n : Int).toNat (.str it) = sts (xs'.set n it) := by rw [Int.toNat_natCast, sts, sts, List.map_set]
    rw [e1]
    have H'' := H.again (.list (sts (xs'.set n it)))
    repeat kbo_bools
    refine E_CallF (by with_unfolding_all exact rfl) (by with_unfolding_all exact rfl) ?_
    repeat kbo_bools
    refine ⟨_, _, _, rfl, G₁.K 101 _ rfl, rfl, ?_⟩
    repeat kbo_bools
    refine spec_siftdown G₁ (by omega) (xs := xs'.set n it) (it := it) (by simp [hn]) (by simp; omega) (by kd_mem) ?_
    refine ⟨rfl, ?_⟩
    repeat kbo_bools
    rw [hR]
    exact ⟨_, _, .next, .more .done, hQ⟩

theorem spec_heappop (G : Gd c) (hroom : c.A.depth < 700) {h : Addr} {xs : List Str} {Q : D → Sig → Prop} (hne : xs ≠ []) (hsz : xs.length < 800) (H : Hole h (.list (sts xs)) σ f)
    (hQ : Q (.str (hpop xs).1) (f (.list (sts (hpop xs).2)))) : WL c c.DV (fun vs => call (.ref 94) vs) [.val (.ref h)] σ Q := by
  refine WC.call (call_F0 (ps := ["heap"]) (ns := ["heap", "lastelt", "returnitem"]) (G.K 94 _ rfl) (by unfold recursionLimit; omega) G.nolimit (codeOf G (by kernel_rfl)) [some _, none, none] (by kernel_rfl) (WB.pure ?_) rfl (by kernel_rfl) fun L => inF G fun c₁ G₁ hd => ?_)
  · intro vals hl
    match vals, hl with
    | [a], _ => rfl
  have z := sizeLine_eq
  obtain ⟨ys, last, rfl⟩ : ∃ ys last, xs = ys ++ [last] := by
    rcases List.eq_nil_or_concat xs with rfl | ⟨l, b, rfl⟩
    · exact absurd rfl hne
    · exact ⟨l, b, by simp⟩
  have hy : ys.length < 800 := by simp at hsz; omega
  repeat kbo_bools
  refine E_Meth0 (by with_unfolding_all exact rfl) ?_
  repeat kbo_bools
  refine ⟨_, gm_pop (.ref (by kd_mem)), ?_⟩
  have H1 : Hole h (.list (sts ys ++ [.str last])) σ f := by simpa using H
  have H' := H.again (.list (sts ys))
  refine pop_m (by kd_mem) (by simp; omega) ?_
  repeat kbo_bools
  refine T_plain (by with_unfolding_all exact rfl) ?_
  repeat kbo_bools
  refine truthy_l (.ref (by kd_mem)) (by simp; omega) ?_
  cases ys with
  | nil =>
    refine if_f ?_
    repeat kbo_bools
    exact ⟨_, _, .ret _, .more .done, hQ⟩
  | cons y ys =>
    refine if_t ?_
    repeat kbo_bools
    refine sub_l (by intro _ _; with_unfolding_all rfl) (.ref (by kd_mem)) (by omega) (by omega) (d := .str y) (by rfl) ?_
    repeat kbo_bools
    refine set_l (by kd_mem) (by omega) (by omega) (by simp) ?_
    have e1 : (sts (y :: ys)).set (0 : Int).toNat (.str last) = sts (last :: ys) := rfl
    rw [e1]
    have H'' := H.again (.list (sts (last :: ys)))
    repeat kbo_bools
    refine E_CallF (by with_unfolding_all exact rfl) (by with_unfolding_all exact rfl) ?_
    repeat kbo_bools
    refine ⟨_, _, _, rfl, G₁.K 108 _ rfl, rfl, ?_⟩
    repeat kbo_bools
    refine spec_siftup G₁ (by omega) (xs := last :: ys) (it := last) rfl (by simp at hy ⊢; omega) (by kd_mem) ?_
    refine ⟨rfl, ?_⟩
    repeat kbo_bools
    refine ⟨_, _, .ret _, .more .done, ?_⟩
    have e2 : hpop (y :: ys ++ [last]) = (y, sup (ys.length + 2) (last :: ys) 0 last) := by
      unfold hpop
      rw [show (y :: ys ++ [last]).getLast? = some last from List.getLast?_concat, show (y :: ys ++ [last]).dropLast = y :: ys from List.dropLast_concat]
    rw [e2] at hQ
    exact hQ
end

/-! tallies -/
noncomputable abbrev di (tl : List (Str × Int)) : List (Str × D) := tl.map fun p => (p.1, .int p.2)
theorem di_lookup {k : Str} : ∀ {tl : List (Str × Int)}, (di tl).lookup k = (tl.lookup k).map .int
  | [] => rfl
  | (x, n) :: r => by
    show ((x, D.int n) :: di r).lookup k = _
    rw [List.lookup_cons, List.lookup_cons, di_lookup (tl := r)]
    cases k == x <;> rfl
theorem lookup_none {α : Type} {k : Str} : ∀ {l : List (Str × α)}, k ∉ l.map (·.1) → l.lookup k = none
  | [], _ => rfl
  | (x, n) :: r, h => by
    rw [List.lookup_cons, beq_eq_false_iff_ne.mpr (show k ≠ x from fun q => by subst q; exact h (.head _))]
    exact lookup_none fun q => h (.tail _ q)
theorem lookup_notin {α : Type} {k : Str} : ∀ {l : List (Str × α)}, l.lookup k = none → k ∉ l.map (·.1)
  | [], _, h => nomatch h
  | (x, n) :: r, h, hm => by
    rw [List.lookup_cons] at h
    cases hb : k == x with
    | true => rw [hb] at h; cases h
    | false =>
      rw [hb] at h
      rcases List.mem_cons.mp hm with q | q
      · rw [q] at hb; simp at hb
      · exact lookup_notin h q
theorem putK_new {es : List (Str × D)} {k : Str} {d : D} (h : k ∉ es.map (·.1)) : putK es k d = es ++ [(k, d)] := by
  unfold putK
  rw [if_neg]
  rw [List.any_eq_true]
  rintro ⟨e, he, hk⟩
  exact h (List.mem_map.mpr ⟨e, he, of_decide_eq_true hk⟩)
noncomputable def bump (tl : List (Str × Int)) (k : Str) : List (Str × Int) := match tl.lookup k with
  | some n => tl.map fun p => if p.1 = k then (p.1, n + 1) else p
  | none => tl ++ [(k, 1)]
theorem lookup_mem {α : Type} {k : Str} {x : α} : ∀ {l : List (Str × α)}, l.lookup k = some x → (k, x) ∈ l
  | (y, n) :: r, h => by
    rw [List.lookup_cons] at h
    cases hb : k == y with
    | true => rw [hb] at h; cases h; rw [eq_of_beq hb]; exact .head _
    | false => rw [hb] at h; exact .tail _ (lookup_mem h)
theorem putK_bump {tl : List (Str × Int)} {k : Str} {n : Int} (h : tl.lookup k = some n) : putK (di tl) k (.int (n + 1)) = di (bump tl k) := by
  unfold putK bump
  rw [h, if_pos]
  · simp only [di, List.map_map]
    refine List.map_congr_left fun p _ => ?_
    simp only [Function.comp]
    split <;> rfl
  · rw [List.any_eq_true]
    exact ⟨(k, .int n), List.mem_map.mpr ⟨(k, n), lookup_mem h, rfl⟩, by simp⟩
noncomputable def total (tl : List (Str × Int)) : Int := tl.foldl (fun a p => a + p.2) 0

section
variable {c : Cx} {σ τ : Sig} {f : Ob → Sig} {X : List Addr} {s s₁ : Shared} {env : Env}

theorem spec_count_calls (G : Gd c) (hroom : c.A.depth < 800) {tl : List (Str × Int)} {Q : D → Sig → Prop} (hQ : Q (.int (total tl)) σ) :
    WL c c.DV (fun vs => call (.ref 80) vs) [.dct (di tl)] σ Q := by
  refine WC.call (call_F0 (ps := ["callers"]) (ns := ["callers", "nc", "calls"]) (G.K 80 _ rfl) (by unfold recursionLimit; omega) G.nolimit (codeOf G (by kernel_rfl)) [some _, none, none] (by kernel_rfl) (WB.pure ?_) rfl (by kernel_rfl) fun L => inF G fun c₁ G₁ hd => ?_)
  · intro vals hl
    match vals, hl with
    | [a], _ => rfl
  repeat kbo_bools
  refine S_For (by with_unfolding_all intro _; rfl) ?_
  refine E_Meth0 (by with_unfolding_all exact rfl) ?_
  repeat kbo_bools
  refine ⟨_, gm_values .dct, values_m ?_⟩
  refine ⟨_, _, src_vals G₁.hh, Loop.rest (fun rest σ' => ∃ done todo o, tl = done ++ todo ∧ rest = (di todo).map (·.2) ∧ σ' = (L, .ns ["callers", "nc", "calls"] [some (.dct (di tl)), some (.int (total done)), o]) :: σ) ?_ ?_ _ _ ⟨[], tl, none, rfl, rfl, rfl⟩⟩
  · rintro d rest σ' ⟨done, todo, o, hl, hr, rfl⟩
    cases todo with
    | nil => cases hr
    | cons p todo =>
      injection hr with h1 h2
      subst h1 h2
      refine ⟨trivial, ?_⟩
      repeat kbo_bools
      refine ⟨done ++ [p], todo, some (.int p.2), by simp [hl], rfl, ?_⟩
      rw [show total (done ++ [p]) = total done + p.2 by simp [total]]
  · rintro σ' ⟨done, todo, o, hl, hr, rfl⟩
    cases todo with
    | cons p todo => cases hr
    | nil =>
      refine ⟨trivial, ?_⟩
      repeat kbo_bools
      rw [List.append_nil] at hl
      subst hl
      exact ⟨_, _, .ret _, .more .done, hQ⟩

theorem spec_add_callers (G : Gd c) (hroom : c.A.depth < 800) {tl : List (Str × Int)} {k : Str} {Q : D → Sig → Prop} (hn : (tl.map (·.1)).Nodup) (hz : tl.length < 1000) (hQ : Q (.dct (di (bump tl k))) σ) :
    WL c c.DV (fun vs => call (.ref 73) vs) [.dct (di tl), .dct [(k, .int 1)]] σ Q := by
  refine WC.call (call_F0 (ps := ["target", "source"]) (ns := ["target", "source", "new_callers", "func", "caller"]) (G.K 73 _ rfl) (by unfold recursionLimit; omega) G.nolimit (codeOf G (by kernel_rfl)) [some _, some _, none, none, none] (by kernel_rfl) (WB.pure ?_) rfl (by kernel_rfl) fun L => inF G fun c₁ G₁ hd => ?_)
  · intro vals hl
    match vals, hl with
    | [a, b], _ => rfl
  have z := sizeLine_eq
  repeat kbo_bools
  refine E_Dict_empty fun a => ?_
  repeat kbo_bools
  refine S_For (by with_unfolding_all intro _; rfl) ?_
  refine E_Meth0 (by with_unfolding_all exact rfl) ?_
  repeat kbo_bools
  refine ⟨_, gm_items .dct, items_m ?_⟩
  refine ⟨_, _, src_items G₁.hh, Loop.rest (fun rest σ' => ∃ done todo o1 o2, tl = done ++ todo ∧ rest = (di todo).map (fun e => .tup [.str e.1, e.2]) ∧
    σ' = (a, .dict (di done)) :: (L, .ns ["target", "source", "new_callers", "func", "caller"] [some (.dct (di tl)), some (.dct [(k, .int 1)]), some (.val (.ref a)), o1, o2]) :: σ) ?_ ?_ _ _ ⟨[], tl, none, none, rfl, rfl, rfl⟩⟩
  · rintro d rest σ' ⟨done, todo, o1, o2, hl, hr, rfl⟩
    cases todo with
    | nil => cases hr
    | cons p todo =>
      injection hr with h1 h2
      subst h1 h2
      refine ⟨trivial, ?_⟩
      refine A_Tuple G₁.hh (by with_unfolding_all exact rfl) rfl ?_
      repeat kbo_bools
      have hd1 : p.1 ∉ (di done).map (·.1) := by
        rw [hl, List.map_append, List.nodup_append] at hn
        intro hm
        rw [List.map_map] at hm
        exact hn.2.2 p.1 hm p.1 (by simp) rfl
      refine set_d (by kd_mem) (by simp; rw [hl] at hz; simp at hz; omega) ?_
      rw [putK_new hd1]
      repeat kbo_bools
      refine ⟨done ++ [p], todo, some (.str p.1), some (.int p.2), by simp [hl], rfl, ?_⟩
      simp
  · rintro σ' ⟨done, todo, o1, o2, hl, hr, rfl⟩
    cases todo with
    | cons p todo => cases hr
    | nil =>
      rw [List.append_nil] at hl
      subst hl
      refine ⟨trivial, ?_⟩
      refine X_cons (W0.mono (Q := fun fl σ₂ => fl = .next ∧ ∃ o1 o2, σ₂ = (a, .dict (di (bump tl k))) :: (L, .ns ["target", "source", "new_callers", "func", "caller"] [some (.dct (di tl)), some (.dct [(k, .int 1)]), some (.val (.ref a)), o1, o2]) :: σ) ?_ ?_)
      · refine S_For (by with_unfolding_all intro _; rfl) ?_
        refine E_Meth0 (by with_unfolding_all exact rfl) ?_
        repeat kbo_bools
        refine ⟨_, gm_items .dct, items_m ?_⟩
        refine ⟨_, _, src_items G₁.hh, ?_⟩
        refine ⟨trivial, ?_⟩
        refine A_Tuple G₁.hh (by with_unfolding_all exact rfl) rfl ?_
        repeat kbo_bools
        refine in_d (.ref (by kd_mem)) ?_
        rw [di_lookup]
        repeat kbo_bools
        cases hk : tl.lookup k with
        | none =>
          refine if_f ?_
          repeat kbo_bools
          refine set_d (by kd_mem) (by simp; omega) ?_
          have e : putK (di tl) k (.int 1) = di (bump tl k) := by
            rw [putK_new]
            · unfold bump; rw [hk]; simp
            · intro hm
              obtain ⟨p, hp, e⟩ := List.mem_map.mp hm
              obtain ⟨q, hq, rfl⟩ := List.mem_map.mp hp
              have e' : q.1 = k := e
              subst e'
              exact absurd (List.mem_map.mpr ⟨q, hq, rfl⟩) (fun hm' => (lookup_notin hk) hm')
          rw [e]
          repeat kbo_bools
          exact ⟨trivial, rfl, _, _, rfl⟩
        | some n =>
          refine if_t ?_
          repeat kbo_bools
          refine T_plain (by with_unfolding_all exact rfl) ?_
          refine E_CallB (by with_unfolding_all exact rfl) (by with_unfolding_all exact rfl) (by with_unfolding_all exact rfl) ?_
          repeat kbo_bools
          refine ⟨_, rfl, ?_⟩
          repeat kbo_bools
          refine isi_int ?_
          repeat kbo_bools
          refine get_d (.ref (by kd_mem)) (d := .int n) (by rw [di_lookup, hk]; rfl) ?_
          repeat kbo_bools
          refine set_d (by kd_mem) (by simp; omega) ?_
          rw [putK_bump hk]
          repeat kbo_bools
          exact ⟨trivial, rfl, _, _, rfl⟩
      · rintro fl σ₂ ⟨rfl, o1, o2, rfl⟩
        refine X_cons (S_Return (E_iceD ?_))
        repeat kbo_bools
        refine ⟨_, _, _, rfl, .head, ?_⟩
        exact ⟨_, _, .ret _, .more .done, hQ⟩
end

/-! the judge -/
noncomputable def judge (d : Int) (a b : Int × Int) : Int := if a.1 < b.1 then -d else if b.1 < a.1 then d else if a.2 < b.2 then -1 else if b.2 < a.2 then 1 else 0
noncomputable abbrev rowD (a : Int × Int) : D := .tup [.int a.1, .int a.2]
noncomputable abbrev judgeD (d : Int) : D := .inst 62 "comp_select_list" (.lst [.tup [.int 0, .int d], .tup [.int 1, .int 1]])
theorem ok62 (P : Params) : ClsOk (laid P) 62 "comp_select_list" := ⟨by kernel_rfl, by kernel_rfl, by kernel_rfl, by kernel_rfl, by kernel_rfl, by kernel_rfl, by kernel_rfl, by kernel_rfl⟩

section
variable {c : Cx} {σ τ : Sig} {f : Ob → Sig} {X : List Addr} {s s₁ : Shared} {env : Env}
theorem handed_lst {ds : List D} : ∀ s bad v, c.DV s bad v (.lst ds) → handedIn v = true := fun s bad v r => by (first | obtain ⟨_, rfl⟩ := DV.iX r | obtain ⟨_, rfl⟩ := DV.sX r | obtain rfl := DV.nX r | obtain rfl := DV.bX r | obtain rfl := DV.vX r | obtain rfl := DVs.zX r | cases r); rfl
theorem handed_ref {a : Addr} : ∀ s bad v, c.DV s bad v (.val (.ref a)) → handedIn v = true := fun s bad v r => by (first | obtain ⟨_, rfl⟩ := DV.iX r | obtain ⟨_, rfl⟩ := DV.sX r | obtain rfl := DV.nX r | obtain rfl := DV.bX r | obtain rfl := DV.vX r | obtain rfl := DVs.zX r | cases r); rfl

theorem spec_TupleComp (G : Gd c) (hroom : c.A.depth < 800) {d : Int} {Q : D → Sig → Prop} (hQ : Q (judgeD d) σ) : WL c c.DV (fun vs => call (.ref 62) vs) [.lst [.tup [.int 0, .int d], .tup [.int 1, .int 1]]] σ Q := by
  refine new_inst G.K (ok62 _).makes (by kernel_rfl : findIn (laid c.w.params) (.ref 62) "__init__" = some (some (.ref 52))) (by kernel_rfl) fun A' x dx hdep hh hun => ?_
  have G' : Gd { c with A := A' } := ⟨G.K, G.top, G.nolimit, hh.trans G.hh, by have := G.units; show A'.units ≤ 4 + 4 * A'.depth; omega⟩
  refine call_F0 (ps := ["self", "comp_select_list"]) (ns := ["self", "comp_select_list"]) (G'.K 52 _ rfl) (by unfold recursionLimit; show A'.depth < 1000; omega) G'.nolimit (codeOf G' (by kernel_rfl)) [some _, some _] (by kernel_rfl) (WB.pure ?_) rfl (by kernel_rfl) fun L => inF G' fun c₁ G₁ hd => ?_
  · intro vals hl
    match vals, hl with
    | [a, b], _ => rfl
  repeat kbo_bools
  refine set_attr G₁.K (ok62 _) (.tail .head) (.tail (.tail .head)) ?_
  repeat kbo_bools
  exact ⟨_, _, .next, .more .done, rfl, _, _, _, rfl, hQ⟩

theorem spec_compare (G : Gd c) (hroom : c.A.depth < 800) {d : Int} {a b : Int × Int} {Q : D → Sig → Prop} (hQ : Q (.int (judge d a b)) σ) :
    WL c c.DV (fun vs => call (.ref 59) vs) [judgeD d, rowD a, rowD b] σ Q := by
  refine WC.call (call_F0 (ps := ["self", "left", "right"]) (ns := ["self", "left", "right", "index", "direction", "l", "r"]) (G.K 59 _ rfl) (by unfold recursionLimit; omega) G.nolimit (codeOf G (by kernel_rfl)) [some _, some _, some _, none, none, none, none] (by kernel_rfl) (WB.pure ?_) rfl (by kernel_rfl) fun L => inF G fun c₁ G₁ hd => ?_)
  · intro vals hl
    match vals, hl with
    | [a, b, d], _ => rfl
  unfold judge at hQ
  repeat kbo_bools
  refine S_For (by with_unfolding_all intro _; rfl) ?_
  refine E_Attr (by with_unfolding_all exact rfl) ?_
  repeat kbo_bools
  refine get_attr G₁.K (ok62 _) handed_lst ?_
  refine ⟨_, _, src_seq G₁.hh .lst, .lst, ?_⟩
  refine A_Tuple G₁.hh (by with_unfolding_all exact rfl) rfl ?_
  repeat kbo_bools
  refine sub_t (k := 0) (by intro _ _; with_unfolding_all rfl) (by decide) rfl ?_
  repeat kbo_bools
  refine sub_t (k := 0) (by intro _ _; with_unfolding_all rfl) (by decide) rfl ?_
  repeat kbo_bools
  refine if_d (fun h1 => ?_) fun h1 => ?_
  · rw [if_pos h1] at hQ
    repeat kbo_bools
    exact ⟨_, _, .ret _, .more .done, hQ⟩
  rw [if_neg h1] at hQ
  repeat kbo_bools
  refine if_d (fun h2 => ?_) fun h2 => ?_
  · rw [if_pos h2] at hQ
    repeat kbo_bools
    exact ⟨_, _, .ret _, .more .done, hQ⟩
  rw [if_neg h2] at hQ
  repeat kbo_bools
  refine ⟨.lst, ?_⟩
  refine A_Tuple G₁.hh (by with_unfolding_all exact rfl) rfl ?_
  repeat kbo_bools
  refine sub_t (k := 1) (by intro _ _; with_unfolding_all rfl) (by decide) rfl ?_
  repeat kbo_bools
  refine sub_t (k := 1) (by intro _ _; with_unfolding_all rfl) (by decide) rfl ?_
  repeat kbo_bools
  refine if_d (fun h3 => ?_) fun h3 => ?_
  · rw [if_pos h3] at hQ
    repeat kbo_bools
    exact ⟨_, _, .ret _, .more .done, hQ⟩
  rw [if_neg h3] at hQ
  repeat kbo_bools
  refine if_d (fun h4 => ?_) fun h4 => ?_
  · rw [if_pos h4] at hQ
    repeat kbo_bools
    exact ⟨_, _, .ret _, .more .done, hQ⟩
  rw [if_neg h4] at hQ
  repeat kbo_bools
  refine ⟨.lst, ?_⟩
  repeat kbo_bools
  exact ⟨_, _, .ret _, .more .done, hQ⟩
end

/-! the roads -/
noncomputable abbrev pairD (p : Int × Int) : D := .tup [.int p.1, .int p.2]
noncomputable abbrev nums (ns : List Int) : List D := ns.map .int
noncomputable def roads (n0 n1 n2 n3 n4 : Int) : List (Int × Int) := [(1, n0.fmod 1), (2, n1.fmod 2), (3, n2.fmod 3), (n3.fmod 4, (n3.fdiv 4).fmod 4), (n4.fmod 4, (n4.fdiv 4).fmod 4)]

section
variable {c : Cx} {σ τ : Sig} {f : Ob → Sig} {X : List Addr} {s s₁ : Shared} {env : Env}

theorem spec_law_roads (G : Gd c) (hroom : c.A.depth < 800) {n0 n1 n2 n3 n4 : Int} {Q : D → Sig → Prop} (hQ : Q (.lst ((roads n0 n1 n2 n3 n4).map pairD)) σ) :
    WL c c.DV (fun vs => call (.ref 261) vs) [.lst (nums [n0, n1, n2, n3, n4])] σ Q := by
  refine WC.call (call_FC (ps := ["numbers"]) (ns := ["roads"]) (G.K 261 _ rfl) (by unfold recursionLimit; omega) G.nolimit (codeOf G (by kernel_rfl)) [none] (fun L => (L + 1, .cell (some (.lst (nums [n0, n1, n2, n3, n4])))) :: σ) (by kernel_rfl) (WB.pure ?_) rfl (by intro L; rfl) 2 fun L => inF G fun c₁ G₁ hd => ?_)
  · intro vals hl
    match vals, hl with
    | [a], _ => rfl
  have z := sizeLine_eq
  refine X_cons ?_
  (with_reducible refine S_AssignMapC ["k"] [("numbers", L + 1)] ⟨by with_unfolding_all exact rfl, by decide, by with_unfolding_all exact rfl, by decide, by decide⟩ (by intro _; with_unfolding_all exact rfl) (by with_unfolding_all exact rfl) ?_)
  refine E_CallT (by with_unfolding_all exact rfl) (by with_unfolding_all exact rfl) (by with_unfolding_all exact rfl) ?_
  repeat kbo_bools
  refine ⟨_, rfl, ?_⟩
  repeat kbo_bools
  refine range_t (n := 3) ?_
  refine ⟨_, _, fun d => match d with | .int k => .tup [.int (k + 1), .int ((([n0, n1, n2, n3, n4] : List Int).getD k.toNat 0).fmod (k + 1))] | d => d, by simp [upTo]; omega, src_rng G₁.hh (by decide) (by decide), fun _ => trivial, ?_, ?_⟩
  · intro C d hd' vals hv
    obtain ⟨k, hk, rfl⟩ := List.mem_map.mp hd'
    have hk3 : k < 3 := List.mem_range.mp hk
    match vals, hv with
    | [o], _ =>
      repeat kbo_bools
      refine ⟨[some (.int k)], rfl, rfl, ?_⟩
      repeat kbo_bools
      refine sub_l (by intro _ _; with_unfolding_all rfl) .lst (by omega) (by omega) (d := .int (([n0, n1, n2, n3, n4] : List Int).getD k 0)) ?_ ?_
      · rw [Int.toNat_natCast]
        match k, hk3 with
        | 0, _ => rfl
        | 1, _ => rfl
        | 2, _ => rfl
      repeat kbo_bools
      refine mod_i (by omega) ?_
      repeat kbo_bools
      exact ⟨rfl, rfl⟩
  · repeat kbo_bools
    (with_reducible refine E_MapC ["number"] [] ⟨by with_unfolding_all exact rfl, by decide, by with_unfolding_all exact rfl, by decide, by decide⟩ (by intro _; with_unfolding_all exact rfl) ?_)
    refine E_Slice (by intro _ _; with_unfolding_all rfl) ?_
    repeat kbo_bools
    refine P_some ?_
    repeat kbo_bools
    refine P_none ⟨_, _, _, .lst, by simp, .int 3, .none, ?_⟩
    refine ⟨_, _, fun d => match d with | .int k => .tup [.int (k.fmod 4), .int ((k.fdiv 4).fmod 4)] | d => d, ?_, src_seq G₁.hh .lst, fun _ => .lst, ?_, ?_⟩
    · simp [pickD, kms_lo, kms_hi]; omega
    · intro C d hd' vals hv
      have : ∃ k : Int, d = .int k := by
        have : d = .int n3 ∨ d = .int n4 := by simpa [pickD, kms_lo, kms_hi] using hd'
        rcases this with h | h <;> exact ⟨_, h⟩
      obtain ⟨k, rfl⟩ := this
      match vals, hv with
      | [o], _ =>
        repeat kbo_bools
        refine ⟨[some (.int k)], rfl, rfl, ?_⟩
        repeat kbo_bools
        refine mod_i (by decide) ?_
        repeat kbo_bools
        refine fdiv_i (by decide) ?_ ?_
        · exact PyProof.noPylong_small (by decide)
        repeat kbo_bools
        refine mod_i (by decide) ?_
        repeat kbo_bools
        exact ⟨rfl, rfl⟩
    · refine add_l .lst .lst (by simp [upTo, pickD, kms_lo, kms_hi]; omega) ?_
      refine ⟨_, _, .ret _, .more (.more .done), ?_⟩
      exact hQ
end

/-! the pieces -/
noncomputable abbrev numsP (ns : List Int) : List D := ns.map .int
noncomputable abbrev setD (p : Str × List Int) : D := .tup [.str p.1, .lst (numsP p.2)]
noncomputable def merge (ns : List Int) (h t : Int) : List Int := ns.map fun x => if x == t then h else x
noncomputable def grow2 (r : Int × Int) (k : Nat) (p : Str × List Int) : List (Str × List Int) :=
  [(p.1 ++ Txt.item "ABCDE" k, merge p.2 (p.2.getD r.1.toNat 0) (p.2.getD r.2.toNat 0)), (p.1 ++ Txt.item "abcde" k, p.2)]
noncomputable def setsOf (rs : List (Int × Int)) : Nat → List (Str × List Int)
  | 0 => [("", [0, 1, 2, 3])]
  | k + 1 => (setsOf rs k).flatMap (grow2 (rs.getD k (0, 0)) k)
noncomputable def piecesOf (rs : List (Int × Int)) : List (Str × Int) := (setsOf rs 5).foldl (fun es p => if es.any (fun e => e.1 = p.1) then es.map (fun e => if e.1 = p.1 then (e.1, (distinct p.2 : Int)) else e) else es ++ [(p.1, (distinct p.2 : Int))]) []
noncomputable def mergeD (h t : Int) : D → D
  | .int x => .int (if x == t then h else x)
  | d => d
theorem mergeD_map (h t : Int) (ns : List Int) : (numsP ns).map (mergeD h t) = numsP (merge ns h t) := by
  simp only [numsP, merge, List.map_map]
  rfl
noncomputable def countD : D → Str × D
  | .tup [.str x, .lst ds] => (x, .int (distinct (ds.map fun d => match d with | .int i => i | _ => 0)))
  | _ => ("", .none)
theorem nums_back (ns : List Int) : (numsP ns).map (fun d => match d with | .int i => i | _ => 0) = ns := by
  simp only [numsP, List.map_map]
  exact List.map_id ns
theorem countD_set (p : Str × List Int) : countD (setD p) = (p.1, .int (distinct p.2)) := by
  show (p.1, D.int (distinct ((numsP p.2).map fun d => match d with | .int i => i | _ => 0))) = _
  rw [nums_back]
theorem ints_are : ∀ ns : List Int, Ints (numsP ns) ns
  | [] => .nil
  | n :: ns => .cons (ints_are ns)
theorem gather_go (l : List (Str × List Int)) : ∀ acc : List (Str × Int), (l.map setD).foldl (fun es d => putK es (countD d).1 (countD d).2) (acc.map fun p => (p.1, .int p.2)) =
    (l.foldl (fun es p => if es.any (fun e => e.1 = p.1) then es.map (fun e => if e.1 = p.1 then (e.1, (distinct p.2 : Int)) else e) else es ++ [(p.1, (distinct p.2 : Int))]) acc).map fun p => (p.1, .int p.2) := by
  induction l with
  | nil => intro acc; rfl
  | cons p l ih =>
    intro acc
    rw [List.map_cons, List.foldl_cons, List.foldl_cons, ← ih]
    congr 1
    show putK _ p.1 (.int (distinct ((numsP p.2).map fun d => match d with | .int i => i | _ => 0))) = _
    rw [nums_back]
    unfold putK
    have e : (acc.map fun p => (p.1, D.int p.2)).any (fun e => decide (e.1 = p.1)) = acc.any (fun e => decide (e.1 = p.1)) := by rw [List.any_map]; rfl
    rw [e]
    split
    · rw [List.map_map, List.map_map]
      refine List.map_congr_left fun q _ => ?_
      simp only [Function.comp]
      split <;> rfl
    · rw [List.map_append]; rfl
theorem gather_pieces (rs : List (Int × Int)) : gather countD ((setsOf rs 5).map setD) = (piecesOf rs).map fun p => (p.1, .int p.2) := gather_go _ []
structure Road (r : Int × Int) : Prop where
  a0 : 0 ≤ r.1
  a1 : r.1 < 4
  b0 : 0 ≤ r.2
  b1 : r.2 < 4
theorem grow2_len {r : Int × Int} {k : Nat} {l : List (Str × List Int)} : (l.flatMap (grow2 r k)).length = 2 * l.length := by
  induction l with
  | nil => rfl
  | cons p l ih => rw [List.flatMap_cons, List.length_append, ih]; show 2 + _ = _; simp; omega
theorem setsOf_len (rs : List (Int × Int)) : ∀ k, (setsOf rs k).length = 2 ^ k
  | 0 => rfl
  | k + 1 => by rw [setsOf, grow2_len, setsOf_len rs k, Nat.pow_succ, Nat.mul_comm]
theorem setsOf_towns (rs : List (Int × Int)) : ∀ k, ∀ p ∈ setsOf rs k, p.2.length = 4 ∧ p.1.length = k
  | 0, p, h => by rw [setsOf, List.mem_singleton] at h; subst h; exact ⟨rfl, rfl⟩
  | k + 1, p, h => by
    rw [setsOf, List.mem_flatMap] at h
    obtain ⟨q, hq, hp⟩ := h
    have ih := setsOf_towns rs k q hq
    have l1 : ∀ y : Str, (Txt.item y k).length = 1 := fun _ => rfl
    have l2 : ∀ x y : Str, (x ++ y).length = x.length + y.length := fun x y => by
      show (x.cps ++ y.cps).size = _
      rw [Array.size_append]; rfl
    unfold grow2 at hp
    rcases List.mem_cons.mp hp with rfl | hp
    · exact ⟨by simp [merge, ih.1], by rw [l2, l1, ih.2]⟩
    · rw [List.mem_singleton] at hp
      subst hp
      exact ⟨ih.1, by rw [l2, l1, ih.2]⟩

section
variable {c : Cx} {σ τ : Sig} {f : Ob → Sig} {X : List Addr} {s s₁ : Shared} {env : Env}
theorem E_List_new' {es : List Expr} {pos : Pos} {Q : D → Sig → Prop} (h : WI c es env pos σ fun ds σ₁ => ds.length ≤ sizeLine ∧ ∀ a, Q (.val (.ref a)) ((a, .list ds) :: σ₁)) : WE c (.List es pos) env σ Q := E_List_new h

theorem spec_law_pieces (G : Gd c) (hroom : c.A.depth < 800) {rs : List (Int × Int)} {Q : D → Sig → Prop} (hl : rs.length = 5) (hr : ∀ r ∈ rs, Road r) (hQ : Q (.dct ((piecesOf rs).map fun p => (p.1, .int p.2))) σ) :
    WL c c.DV (fun vs => call (.ref 266) vs) [.lst (rs.map fun p => .tup [.int p.1, .int p.2])] σ Q := by
  have ho : c.B.get? 266 = some (fnObj _ _ _ _ _ _ _ _ _) := G.K 266 _ rfl
  (with_reducible refine WC.call ?_)
  (with_reducible refine call_FC (ps := ["roads"]) (ns := ["roads", "sets", "k", "grown", "text", "towns"]) ho (by unfold recursionLimit; omega) G.nolimit (codeOf G (by kernel_rfl)) [some (.lst (rs.map fun p => .tup [.int p.1, .int p.2])), none, none, none, none, none] (fun L => (L + 2, .cell none) :: (L + 1, .cell none) :: σ) (by kernel_rfl) (WB.pure ?_) (by kernel_rfl) (by intro L; kernel_rfl) 3 fun L => inF G fun c₁ G₁ hd => ?_)
  · intro vals hl
    match vals, hl with
    | [a], _ => with_unfolding_all rfl
  have z := sizeLine_eq
  repeat kbo_bools
  refine E_List ?_
  repeat kbo_bools
  refine E_List ?_
  repeat kbo_bools
  repeat kbo_bools
  (with_reducible refine S_For (by intro _; with_unfolding_all exact rfl) ?_)
  (with_reducible refine E_CallT (by with_unfolding_all exact rfl) (by with_unfolding_all exact rfl) (by with_unfolding_all exact rfl) ?_)
  repeat kbo_bools
  (with_reducible refine ⟨_, rfl, ?_⟩)
  repeat kbo_bools
  (with_reducible refine range_t' (n := 5) (by decide) ?_)
  (with_reducible refine ⟨_, _, src_rng G₁.hh (by decide) (by decide), Loop.rest (fun rest σ' => ∃ k o1 o2 o3 o4 o5 o6, k ≤ 5 ∧ rest = (upTo 5).drop k ∧
    σ' = (L, .ns ["roads", "sets", "k", "grown", "text", "towns"] [some (.lst (rs.map fun p => .tup [.int p.1, .int p.2])), some (.lst ((setsOf rs k).map setD)), o1, o2, o3, o4]) :: (L + 2, .cell o5) :: (L + 1, .cell o6) :: σ) ?_ ?_ _ _ ⟨0, none, none, none, none, none, none, by decide, rfl, rfl⟩⟩)
  · rintro d rest σ' ⟨k, o1, o2, o3, o4, o5, o6, hk, hrest, rfl⟩
    rcases Nat.lt_or_ge k 5 with hlt | hge
    · have hu : (upTo 5).drop k = D.int (k : Int) :: (upTo 5).drop (k + 1) := by
        rw [List.drop_eq_getElem_cons (by simpa [upTo] using hlt)]
        simp [upTo]
      rw [hu] at hrest
      injection hrest with h1 h2
      subst h1 h2
      have hkr : k < rs.length := by omega
      obtain ⟨r, hre⟩ : ∃ r, rs[k]? = some r := ⟨rs[k], by simp [hkr]⟩
      have hrd : rs.getD k (0, 0) = r := by simp [List.getD, hre]
      have hro : Road r := hr r (List.mem_of_getElem? hre)
      have hin : ∀ x : Str, x.length = 5 → (Txt.charAt x (k : Int)).isSome = true := by
        intro x hx
        unfold Txt.charAt
        rw [seqIndex_nat (by rw [hx]; exact hlt)]
        show (x.cps[k]?).isSome = true
        have : k < x.cps.size := by rw [show x.cps.size = x.length from rfl, hx]; exact hlt
        simp [this]
      have hfit : fitsSsize (k : Int) = true := by
        match k, hlt with
        | 0, _ => decide
        | 1, _ => decide
        | 2, _ => decide
        | 3, _ => decide
        | 4, _ => decide
      (with_reducible refine ⟨trivial, ?_⟩)
      repeat kbo_bools
      (with_reducible refine E_List_new ?_)
      repeat kbo_bools
      intro g
      repeat kbo_bools
      (with_reducible refine W0.mono (Q := fun fl σ₂ => fl = .next ∧ ∃ o3 o4 o5 o6, σ₂ = (g, .list ((setsOf rs (k + 1)).map setD)) ::
        (L, .ns ["roads", "sets", "k", "grown", "text", "towns"] [some (.lst (rs.map fun p => .tup [.int p.1, .int p.2])), some (.lst ((setsOf rs k).map setD)), some (.int (k : Int)), some (.val (.ref g)), o3, o4]) :: (L + 2, .cell o5) :: (L + 1, .cell o6) :: σ) ?_ ?_)
      · (with_reducible refine S_For (by intro _; with_unfolding_all exact rfl) ?_)
        repeat kbo_bools
        (with_reducible refine ⟨_, _, src_seq G₁.hh .lst, Loop.rest (fun rest σ' => ∃ done todo o3 o4 o5 o6, setsOf rs k = done ++ todo ∧ rest = todo.map setD ∧ σ' = (g, .list ((done.flatMap (grow2 r k)).map setD)) ::
          (L, .ns ["roads", "sets", "k", "grown", "text", "towns"] [some (.lst (rs.map fun p => .tup [.int p.1, .int p.2])), some (.lst ((setsOf rs k).map setD)), some (.int (k : Int)), some (.val (.ref g)), o3, o4]) :: (L + 2, .cell o5) :: (L + 1, .cell o6) :: σ) ?_ ?_ _ _ ⟨[], setsOf rs k, _, _, _, _, rfl, rfl, rfl⟩⟩)
        · rintro d rest σ' ⟨done, todo, o3, o4, o5, o6, hs, hr', rfl⟩
          cases todo with
          | nil => cases hr'
          | cons p todo =>
            injection hr' with h1 h2
            subst h1 h2
            (with_reducible refine ⟨.lst, ?_⟩)
            (with_reducible refine A_Tuple G₁.hh (by with_unfolding_all exact rfl) (by with_unfolding_all exact rfl) ?_)
            repeat kbo_bools
            have hp4 : p.2.length = 4 ∧ p.1.length = k := setsOf_towns rs k p (by rw [hs]; simp)
            have h0 : r.1.toNat < p.2.length := by have := hro.a0; have := hro.a1; omega
            have h1 : r.2.toNat < p.2.length := by have := hro.b0; have := hro.b1; omega
            have getp : ∀ j : Nat, j < p.2.length → (numsP p.2)[j]? = some (.int (p.2.getD j 0)) := fun j hj => by simp [List.getD, hj]
            have getr : ((rs.map fun p => D.tup [.int p.1, .int p.2])[((k : Int)).toNat]?) = some (.tup [.int r.1, .int r.2]) := by rw [Int.toNat_natCast, List.getElem?_map, hre]; rfl
            (with_reducible refine sub_l (by intro _ _; with_unfolding_all rfl) .lst (by omega) (by omega) getr ?_)
            repeat kbo_bools
            (with_reducible refine sub_t' (k := 0) (by intro _ _; with_unfolding_all rfl) (by decide) (by decide) (by with_unfolding_all exact rfl) ?_)
            repeat kbo_bools
            (with_reducible refine sub_l (by intro _ _; with_unfolding_all rfl) .lst hro.a0 (by have := hro.a1; omega) (getp _ h0) ?_)
            repeat kbo_bools
            (with_reducible refine sub_l (by intro _ _; with_unfolding_all rfl) .lst (by omega) (by omega) getr ?_)
            repeat kbo_bools
            (with_reducible refine sub_t' (k := 1) (by intro _ _; with_unfolding_all rfl) (by decide) (by decide) (by with_unfolding_all exact rfl) ?_)
            repeat kbo_bools
            (with_reducible refine sub_l (by intro _ _; with_unfolding_all rfl) .lst hro.b0 (by have := hro.b1; omega) (getp _ h1) ?_)
            repeat kbo_bools
            (with_reducible refine E_Meth (by with_unfolding_all exact rfl) (by with_unfolding_all exact rfl) (by with_unfolding_all exact rfl) ?_)
            repeat kbo_bools
            (with_reducible refine ⟨_, gm_append (.ref (by kd_mem)), ?_⟩)
            repeat kbo_bools
            (with_reducible refine sub_s (by intro _ _; with_unfolding_all rfl) hfit (hin _ rfl) ?_)
            have lx : ∀ x y : Str, (x ++ y).length = x.length + y.length := fun x y => by
              show (x.cps ++ y.cps).size = _
              rw [Array.size_append]; rfl
            have li : ∀ y : Str, (Txt.item y (k : Int)).length = 1 := fun _ => rfl
            (with_reducible refine add_s (by rw [li, z]; omega) ?_)
            repeat kbo_bools
            (with_reducible refine E_MapC ["town"] [("there", L + 2), ("here", L + 1)] ⟨by with_unfolding_all exact rfl, by decide, by with_unfolding_all exact rfl, by decide, by decide⟩ (by intro _; with_unfolding_all exact rfl) ?_)
            repeat kbo_bools
            (with_reducible refine ⟨_, _, mergeD (p.2.getD r.1.toNat 0) (p.2.getD r.2.toNat 0), ?_, src_seq G₁.hh .lst, fun _ => .lst, ?_, ?_⟩)
            · simp [hp4.1, z]
            · intro C d hd' vals hv
              obtain ⟨x, hx, rfl⟩ := List.mem_map.mp hd'
              match vals, hv with
              | [o], _ =>
                repeat kbo_bools
                (with_reducible refine ⟨[some (.int x)], rfl, rfl, ?_⟩)
                repeat kbo_bools
                cases e : (x == p.2.getD r.2.toNat 0) with
                | true =>
                  repeat kbo_bools
                  exact ⟨rfl, by simp only [mergeD, e, if_true]⟩
                | false =>
                  repeat kbo_bools
                  exact ⟨rfl, by simp only [mergeD, e, Bool.false_eq_true, if_false]⟩
            · rw [mergeD_map]
              have hdl : done.length ≤ 32 := by
                have h1 := setsOf_len rs k
                rw [hs, List.length_append] at h1
                have h2 : 2 ^ k ≤ 2 ^ 5 := Nat.pow_le_pow_right (by decide) hk
                omega
              have hfl : ((done.flatMap (grow2 r k)).map setD).length ≤ 100 := by rw [List.length_map, grow2_len]; omega
              repeat kbo_bools
              (with_reducible refine append_m (by kd_mem) (by rw [z]; omega) ?_)
              (with_reducible refine ⟨rfl, ?_⟩)
              repeat kbo_bools
              (with_reducible refine E_Meth (by with_unfolding_all exact rfl) (by with_unfolding_all exact rfl) (by with_unfolding_all exact rfl) ?_)
              repeat kbo_bools
              (with_reducible refine ⟨_, gm_append (.ref (by kd_mem)), ?_⟩)
              repeat kbo_bools
              (with_reducible refine sub_s (by intro _ _; with_unfolding_all rfl) hfit (hin _ rfl) ?_)
              (with_reducible refine add_s (by rw [li, z]; omega) ?_)
              repeat kbo_bools
              (with_reducible refine append_m (by kd_mem) (by rw [z, List.length_append]; simp only [List.length_singleton]; omega) ?_)
              (with_reducible refine ⟨rfl, ?_⟩)
              repeat kbo_bools
              have e : (done.flatMap (grow2 r k)).map setD ++ [D.tup [D.str (p.1 ++ Txt.item "ABCDE" (k : Int)), D.lst (numsP (merge p.2 (p.2.getD r.1.toNat 0) (p.2.getD r.2.toNat 0)))]] ++ [D.tup [.str (p.1 ++ Txt.item "abcde" (k : Int)), .lst (numsP p.2)]] = ((done ++ [p]).flatMap (grow2 r k)).map setD := by
                rw [List.flatMap_append, List.map_append, List.append_assoc]
                rfl
              rw [e]
              exact ⟨done ++ [p], todo, _, _, _, _, by rw [hs]; simp, rfl, rfl⟩
        · rintro σ' ⟨done, todo, o3, o4, o5, o6, hs, hr', rfl⟩
          cases todo with
          | cons p todo => cases hr'
          | nil =>
            rw [List.append_nil] at hs
            (with_reducible refine ⟨.lst, rfl, o3, o4, o5, o6, ?_⟩)
            rw [setsOf, hrd, hs]
      · rintro fl σ₂ ⟨rfl, o3, o4, o5, o6, rfl⟩
        (with_reducible refine X_cons ?_)
        (with_reducible refine S_Assign (by with_unfolding_all exact rfl) (E_iceL ?_))
        repeat kbo_bools
        (with_reducible refine ⟨_, _, _, rfl, .head, ?_⟩)
        repeat kbo_bools
        exact ⟨k + 1, _, _, _, _, _, _, hlt, rfl, rfl⟩
    · exfalso
      rw [List.drop_eq_nil_of_le (by simpa [upTo] using hge)] at hrest
      cases hrest
  · rintro σ' ⟨k, o1, o2, o3, o4, o5, o6, hk, hrest, rfl⟩
    have hk5 : k = 5 := by
      rcases Nat.lt_or_ge k 5 with hlt | hge
      · have := congrArg List.length hrest
        simp [upTo] at this
        omega
      · omega
    subst hk5
    (with_reducible refine ⟨trivial, ?_⟩)
    repeat kbo_bools
    (with_reducible refine E_DictC ["text", "towns"] [] ⟨by with_unfolding_all exact rfl, by decide, by with_unfolding_all exact rfl, by decide, by decide⟩ (by intro _; with_unfolding_all exact rfl) ?_)
    repeat kbo_bools
    (with_reducible refine ⟨_, _, countD, ?_, src_seq G₁.hh .lst, fun _ => .lst, ?_, ?_⟩)
    · rw [List.length_map, setsOf_len, z]; decide
    · intro C d hd' vals hv
      obtain ⟨p, hp, rfl⟩ := List.mem_map.mp hd'
      have hp4 := setsOf_towns rs 5 p hp
      match vals, hv with
      | [o, o'], _ =>
        (with_reducible refine A_Tuple G₁.hh (by with_unfolding_all exact rfl) (by with_unfolding_all exact rfl) ?_)
        repeat kbo_bools
        (with_reducible refine ⟨[some (.str p.1), some (.lst (numsP p.2))], rfl, rfl, ?_⟩)
        repeat kbo_bools
        (with_reducible refine ⟨rfl, rfl, ?_⟩)
        (with_reducible refine E_CallB (by with_unfolding_all exact rfl) (by with_unfolding_all exact rfl) (by with_unfolding_all exact rfl) ?_)
        repeat kbo_bools
        (with_reducible refine ⟨_, rfl, ?_⟩)
        repeat kbo_bools
        (with_reducible refine E_CallT (by with_unfolding_all exact rfl) (by with_unfolding_all exact rfl) (by with_unfolding_all exact rfl) ?_)
        repeat kbo_bools
        (with_reducible refine ⟨_, rfl, ?_⟩)
        repeat kbo_bools
        (with_reducible refine set_t G₁.hh .lst (ints_are _) (by rw [hp4.1]; unfold scanBound; decide) ?_)
        repeat kbo_bools
        (with_reducible refine len_st ?_)
        exact ⟨rfl, by rw [countD_set]⟩
    · rw [gather_pieces]
      exact ⟨_, _, .ret _, .more (.more (.more .done)), hQ⟩
end

/-! the walk from tree to tree -/
structure Wk where
  heap : List Str
  met : List Str
  trees : List Str
  steps : List (Str × Str × Str)
noncomputable def letters (x : Str) : List Str := x.cps.toList.map fun n => ⟨#[n]⟩
noncomputable def among (row x : Str) : List Str := (letters x).filter fun y => Txt.contains row y
noncomputable def exch (tree out into : Str) : Str := Txt.replace (Txt.replace tree out (Txt.lower out)) into (Txt.upper into)
noncomputable def turnsOk (x y z : Str) : Bool := !Builtin.Str.tooLong z.length && !(y == z) && Nat.ble (x.length + (x.length + 1) * z.length) 16777216
noncomputable def inOne (P : List (Str × Int)) (tree out into : Str) (w : Wk) : Option Wk :=
  if turnsOk tree out (Txt.lower out) && turnsOk (Txt.replace tree out (Txt.lower out)) into (Txt.upper into) && Nat.ble w.steps.length 500 && Nat.ble w.met.length 500 && Nat.ble w.heap.length 500 then
    match P.lookup (exch tree out into) with
    | none => none
    | some n => if n == 1 then
        (if w.met.any (· == exch tree out into) then some { w with steps := w.steps ++ [(tree, out, into)] }
         else some { w with steps := w.steps ++ [(tree, out, into)], met := w.met ++ [exch tree out into], heap := hpush w.heap (exch tree out into) })
      else some w
  else none
noncomputable def inTree (P : List (Str × Int)) (tree : Str) (w : Wk) : Option Wk :=
  (among "ABCDE" tree).foldlM (fun w out => (among "abcde" tree).foldlM (fun w into => inOne P tree out into w) w) w
noncomputable def walkN (P : List (Str × Int)) : Nat → Wk → Option Wk
  | 0, _ => none
  | n + 1, w => if Nat.ble w.heap.length 500 && Nat.ble w.trees.length 500 && w.heap.all (fun x => (x.cps.all fun n => decide (n < 128)) && Nat.ble x.length 100 && strOkB x) then
      match w.heap with
      | [] => some w
      | _ :: _ => if ((hpop w.heap).1.cps.all fun n => decide (n < 128)) && Nat.ble (hpop w.heap).1.length 100 then ((inTree P (hpop w.heap).1 { w with heap := (hpop w.heap).2, trees := w.trees ++ [(hpop w.heap).1] }).bind fun w' => walkN P n w') else none
    else none
where strOkB (x : Str) : Bool := x.cps.all (· < 0x110000)

noncomputable abbrev sgs (xs : List Str) : List D := xs.map .sg
noncomputable def sgIn (row : Str) : D → Bool
  | .sg x => Txt.contains row x
  | _ => false
theorem filter_sgs (row tree : Str) : ((signs tree).filter (sgIn row)).map id = sgs (among row tree) := by
  rw [List.map_id]
  unfold signs among letters sgs
  rw [List.filter_map, List.filter_map, List.map_map]
  rfl
theorem if_nt {a b : Prop} (h : b) : if (!true) = true then a else b := h
theorem if_nf {a b : Prop} (h : a) : if (!false) = true then a else b := h
theorem strs_sts : ∀ xs : List Str, Strs (sts xs) xs
  | [] => .nil
  | x :: xs => .str (strs_sts xs)
theorem pys_sts : ∀ xs : List Str, Pys (sts xs) (xs.map .str)
  | [] => .nil
  | x :: xs => .cons (.str x) (pys_sts xs)
theorem canLay_sts : ∀ {xs : List Str}, xs.all (fun x => (x.cps.all fun n => decide (n < 128)) && Nat.ble x.length 100 && walkN.strOkB x) = true → PyData.canLayAll0 (xs.map .str) = true ∧ PyData.depthAll (xs.map .str) = 0
  | [], _ => ⟨rfl, rfl⟩
  | x :: xs, h => by
    rw [List.all_cons, Bool.and_eq_true, Bool.and_eq_true] at h
    have ih := canLay_sts h.2
    refine ⟨?_, ?_⟩
    · show (PyData.canLay0 (.str x) && PyData.canLayAll0 (xs.map .str)) = true
      rw [ih.1, Bool.and_true]
      show PyData.canLay0 (.str x) = true
      simp only [PyData.canLay0]
      exact h.1.2
    · show max (PyData.depth (.str x)) (PyData.depthAll (xs.map .str)) = 0
      rw [ih.2]
      simp only [PyData.depth, Nat.max_self]
theorem shaped_sts {xs : List Str} (h : xs.all (fun x => (x.cps.all fun n => decide (n < 128)) && Nat.ble x.length 100 && walkN.strOkB x) = true) : PySem.SeqAt.shaped (.list (xs.map .str)) = true := by
  have ⟨a, b⟩ := canLay_sts h
  unfold PySem.SeqAt.shaped
  have e : (PyData.list (xs.map .str)).depth = 1 := by
    show PyData.depth (.list _) = 1
    simp only [PyData.depth, b]
  rw [e]
  show (PyData.canLay0 (.list (xs.map .str)) && _) = true
  simp only [PyData.canLay0, a]
  decide

section
variable {c : Cx} {σ τ : Sig} {f : Ob → Sig} {X : List Addr} {s s₁ : Shared} {env : Env}
noncomputable abbrev stepD (p : Str × Str × Str) : D := .tup [.str p.1, .sg p.2.1, .sg p.2.2]

theorem spec_law_walk (G : Gd c) (hroom : c.A.depth < 500) {P : List (Str × Int)} {K : Nat} {w : Wk} {Q : D → Sig → Prop}
    (hw : walkN P K { heap := ["ABCde"], met := ["ABCde"], trees := [], steps := [] } = some w) (hQ : Q (.tup [.lst (sts w.trees), .lst (w.steps.map stepD)]) σ) :
    WL c c.DV (fun vs => call (.ref 271) vs) [.dct (P.map fun p => (p.1, .int p.2))] σ Q := by
  have ho : c.B.get? 271 = some (fnObj _ _ _ _ _ _ _ _ _) := G.K 271 _ rfl
  (with_reducible refine WC.call ?_)
  (with_reducible refine call_F0 (ps := ["pieces"]) (ns := ["pieces", "heap", "met", "trees", "steps", "tree", "out", "into", "other"]) ho (by unfold recursionLimit; omega) G.nolimit (codeOf G (by kernel_rfl)) [some (.dct (P.map fun p => (p.1, .int p.2))), none, none, none, none, none, none, none, none] (by kernel_rfl) (WB.pure ?_) (by kernel_rfl) (by kernel_rfl) fun L => inF G fun c₁ G₁ hd => ?_)
  · intro vals hl
    match vals, hl with
    | [a], _ => with_unfolding_all rfl
  have z := sizeLine_eq
  repeat kbo_bools
  (with_reducible refine E_List_new ?_)
  repeat kbo_bools
  intro ah
  repeat kbo_bools
  (with_reducible refine E_CallF (by with_unfolding_all exact rfl) (by with_unfolding_all exact rfl) ?_)
  repeat kbo_bools
  refine ⟨_, _, _, rfl, G₁.K 87 _ rfl, rfl, ?_⟩
  repeat kbo_bools
  refine spec_heappush G₁ (by omega) (xs := []) (it := "ABCde") (by decide) .head ?_
  (with_reducible refine ⟨rfl, ?_⟩)
  have e0 : hpush [] "ABCde" = [("ABCde" : Str)] := by kernel_rfl
  rw [e0]
  repeat kbo_bools
  (with_reducible refine E_List_new ?_)
  repeat kbo_bools
  intro am
  repeat kbo_bools
  (with_reducible refine E_List_new ?_)
  repeat kbo_bools
  intro at'
  repeat kbo_bools
  (with_reducible refine E_List_new ?_)
  repeat kbo_bools
  intro as'
  repeat kbo_bools
  (with_reducible refine S_While (fun n σ' => ∃ w' o1 o2 o3 o4, walkN P n w' = some w ∧ σ' = (as', .list ((w').steps.map stepD)) :: (at', .list (sts (w').trees)) :: (am, .list (sts (w').met)) :: (ah, .list (sts (w').heap)) :: (L, .ns ["pieces", "heap", "met", "trees", "steps", "tree", "out", "into", "other"] [some (.dct (P.map fun p => (p.1, .int p.2))), some (.val (.ref ah)), some (.val (.ref am)), some (.val (.ref at')), some (.val (.ref as')), o1, o2, o3, o4]) :: σ) ?_ K ⟨_, none, none, none, none, hw, rfl⟩)
  rintro n σ' ⟨w', o1, o2, o3, o4, hn, rfl⟩
  cases n with
  | zero => cases hn
  | succ n =>
    unfold walkN at hn
    split at hn
    · rename_i hg
      simp only [Bool.and_eq_true] at hg
      obtain ⟨⟨g1, g2⟩, g3⟩ := hg
      have g1 := Nat.le_of_ble_eq_true g1
      have g2 := Nat.le_of_ble_eq_true g2
      repeat kbo_bools
      (with_reducible refine E_List ?_)
      repeat kbo_bools
      (with_reducible refine ne_l (G₁.room (by omega)) (.ref (by kd_mem)) (pys_sts _) (shaped_sts g3) .lst .nil (by decide) ?_)
      repeat kbo_bools
      cases hh : w'.heap with
      | nil =>
        rw [hh] at hn
        cases hn
        refine if_f ?_
        (with_reducible refine X_cons (S_Return (E_gone (E_gone (E_Tuple (I_cons (by with_unfolding_all exact rfl) (E_iceL ?_)))))))
        repeat kbo_bools
        (with_reducible refine ⟨_, _, _, rfl, .tail .head, ?_⟩)
        (with_reducible refine I_cons (by with_unfolding_all exact rfl) (E_iceL ?_))
        repeat kbo_bools
        (with_reducible refine ⟨_, _, _, rfl, .head, ?_⟩)
        repeat kbo_bools
        (with_reducible refine ⟨_, _, _, .head, ?_⟩)
        (with_reducible refine ⟨_, _, _, .head, ?_⟩)
        exact ⟨_, _, .ret _, .more .done, hQ⟩
      | cons x xs =>
        rw [hh] at hn
        have hne : w'.heap ≠ [] := by rw [hh]; exact List.cons_ne_nil _ _
        dsimp only at hn
        rw [← hh] at hn
        split at hn
        case isFalse => cases hn
        rename_i hgt
        rw [Bool.and_eq_true] at hgt
        obtain ⟨gt, gl⟩ := hgt
        have gl := Nat.le_of_ble_eq_true gl
        obtain ⟨w2, h1, h2⟩ := Option.bind_eq_some_iff.mp hn
        refine if_t ?_
        rw [← hh]
        repeat kbo_bools
        (with_reducible refine E_CallF (by with_unfolding_all exact rfl) (by with_unfolding_all exact rfl) ?_)
        repeat kbo_bools
        refine ⟨_, _, _, rfl, G₁.K 94 _ rfl, rfl, ?_⟩
        repeat kbo_bools
        (with_reducible refine spec_heappop G₁ (by omega) hne (by omega) (by kd_mem) ?_)
        repeat kbo_bools
        (with_reducible refine E_Meth (by with_unfolding_all exact rfl) (by with_unfolding_all exact rfl) (by with_unfolding_all exact rfl) ?_)
        repeat kbo_bools
        (with_reducible refine ⟨_, gm_append (.ref (by kd_mem)), ?_⟩)
        repeat kbo_bools
        (with_reducible refine append_m (by kd_mem) (by rw [List.length_map, z]; omega) ?_)
        (with_reducible refine ⟨rfl, ?_⟩)
        repeat kbo_bools
        generalize (hpop w'.heap).1 = tree at h1 gt gl ⊢
        generalize (hpop w'.heap).2 = hp at h1 ⊢
        unfold inTree at h1
        have eT : sts w'.trees ++ [.str tree] = sts (w'.trees ++ [tree]) := by simp
        rw [eT]
        (with_reducible refine W0.mono (Q := fun fl σ₂ => fl = .next ∧ ∃ o2 o3 o4, σ₂ = (as', .list ((w2).steps.map stepD)) :: (at', .list (sts (w2).trees)) :: (am, .list (sts (w2).met)) :: (ah, .list (sts (w2).heap)) :: (L, .ns ["pieces", "heap", "met", "trees", "steps", "tree", "out", "into", "other"] [some (.dct (P.map fun p => (p.1, .int p.2))), some (.val (.ref ah)), some (.val (.ref am)), some (.val (.ref at')), some (.val (.ref as')), some (.str tree), o2, o3, o4]) :: σ) ?_ ?_)
        · (with_reducible refine S_For (by intro _; with_unfolding_all exact rfl) ?_)
          (with_reducible refine E_FilterC ["sign"] [] ⟨by with_unfolding_all exact rfl, by decide, by with_unfolding_all exact rfl, by decide, by decide⟩ (by intro _; with_unfolding_all exact rfl) ?_)
          repeat kbo_bools
          (with_reducible refine ⟨_, _, sgIn "ABCDE", id, ?_, src_str G₁.hh gt, fun _ => trivial, ?_, ?_⟩)
          · rw [z]; simp only [signs, List.length_map, Array.length_toList]; show tree.length ≤ _; omega
          · intro C d hd' vals hv
            obtain ⟨y, hy, rfl⟩ := List.mem_map.mp hd'
            match vals, hv with
            | [o], _ =>
              repeat kbo_bools
              (with_reducible refine ⟨[some (.sg ⟨#[y]⟩)], rfl, rfl, ?_⟩)
              repeat kbo_bools
              (with_reducible refine W2.weak1 ?_)
              repeat kbo_bools
              exact ⟨rfl, rfl, fun _ => by repeat kbo_bools; exact ⟨rfl, rfl⟩⟩
          · rw [filter_sgs]
            (with_reducible refine ⟨_, _, src_seq G₁.hh .lst, Loop.rest (fun rest σ' => ∃ w3 outs o2 o3 o4, rest = sgs outs ∧ outs.foldlM (fun w out => (among "abcde" tree).foldlM (fun w into => inOne P tree out into w) w) w3 = some w2 ∧ σ' = (as', .list ((w3).steps.map stepD)) :: (at', .list (sts (w3).trees)) :: (am, .list (sts (w3).met)) :: (ah, .list (sts (w3).heap)) :: (L, .ns ["pieces", "heap", "met", "trees", "steps", "tree", "out", "into", "other"] [some (.dct (P.map fun p => (p.1, .int p.2))), some (.val (.ref ah)), some (.val (.ref am)), some (.val (.ref at')), some (.val (.ref as')), some (.str tree), o2, o3, o4]) :: σ) ?_ ?_ _ _ ⟨{ heap := hp, met := w'.met, trees := w'.trees ++ [tree], steps := w'.steps }, among "ABCDE" tree, _, _, _, rfl, h1, rfl⟩⟩)
            · rintro d rest σ' ⟨w3, outs, o2, o3, o4, hr, hf, rfl⟩
              cases outs with
              | nil => cases hr
              | cons out outs =>
                injection hr with e1 e2
                subst e1 e2
                rw [List.foldlM_cons] at hf
                obtain ⟨w4, hf1, hf2⟩ := Option.bind_eq_some_iff.mp hf
                (with_reducible refine ⟨.lst, ?_⟩)
                repeat kbo_bools
                (with_reducible refine W0.mono (Q := fun fl σ₂ => fl = .next ∧ ∃ o3 o4, σ₂ = (as', .list ((w4).steps.map stepD)) :: (at', .list (sts (w4).trees)) :: (am, .list (sts (w4).met)) :: (ah, .list (sts (w4).heap)) :: (L, .ns ["pieces", "heap", "met", "trees", "steps", "tree", "out", "into", "other"] [some (.dct (P.map fun p => (p.1, .int p.2))), some (.val (.ref ah)), some (.val (.ref am)), some (.val (.ref at')), some (.val (.ref as')), some (.str tree), some (.sg out), o3, o4]) :: σ) ?_ ?_)
                · (with_reducible refine S_For (by intro _; with_unfolding_all exact rfl) ?_)
                  (with_reducible refine E_FilterC ["sign"] [] ⟨by with_unfolding_all exact rfl, by decide, by with_unfolding_all exact rfl, by decide, by decide⟩ (by intro _; with_unfolding_all exact rfl) ?_)
                  repeat kbo_bools
                  (with_reducible refine ⟨_, _, sgIn "abcde", id, ?_, src_str G₁.hh gt, fun _ => trivial, ?_, ?_⟩)
                  · rw [z]; simp only [signs, List.length_map, Array.length_toList]; show tree.length ≤ _; omega
                  · intro C d hd' vals hv
                    obtain ⟨y, hy, rfl⟩ := List.mem_map.mp hd'
                    match vals, hv with
                    | [o], _ =>
                      repeat kbo_bools
                      (with_reducible refine ⟨[some (.sg ⟨#[y]⟩)], rfl, rfl, ?_⟩)
                      repeat kbo_bools
                      (with_reducible refine W2.weak1 ?_)
                      repeat kbo_bools
                      exact ⟨rfl, rfl, fun _ => by repeat kbo_bools; exact ⟨rfl, rfl⟩⟩
                  · rw [filter_sgs]
                    (with_reducible refine ⟨_, _, src_seq G₁.hh .lst, Loop.rest (fun rest σ' => ∃ w5 ins o3 o4, rest = sgs ins ∧ ins.foldlM (fun w into => inOne P tree out into w) w5 = some w4 ∧ σ' = (as', .list ((w5).steps.map stepD)) :: (at', .list (sts (w5).trees)) :: (am, .list (sts (w5).met)) :: (ah, .list (sts (w5).heap)) :: (L, .ns ["pieces", "heap", "met", "trees", "steps", "tree", "out", "into", "other"] [some (.dct (P.map fun p => (p.1, .int p.2))), some (.val (.ref ah)), some (.val (.ref am)), some (.val (.ref at')), some (.val (.ref as')), some (.str tree), some (.sg out), o3, o4]) :: σ) ?_ ?_ _ _ ⟨_, _, _, _, rfl, hf1, rfl⟩⟩)
                    · rintro d rest σ' ⟨w5, ins, o3, o4, hr, hf, rfl⟩
                      cases ins with
                      | nil => cases hr
                      | cons into ins =>
                        injection hr with e1 e2
                        subst e1 e2
                        rw [List.foldlM_cons] at hf
                        obtain ⟨w6, hg1, hg2⟩ := Option.bind_eq_some_iff.mp hf
                        unfold inOne at hg1
                        split at hg1
                        case isFalse => cases hg1
                        rename_i hgd
                        simp only [Bool.and_eq_true, turnsOk, Bool.not_eq_true'] at hgd
                        obtain ⟨⟨⟨⟨⟨⟨q1, q2⟩, q3⟩, ⟨⟨q4, q5⟩, q6⟩⟩, q7⟩, q8⟩, q9⟩ := hgd
                        (with_reducible refine ⟨.lst, ?_⟩)
                        repeat kbo_bools
                        (with_reducible refine E_Repl (nm := "upper") (turn := Txt.upper) repl_upper (by with_unfolding_all exact rfl) (by with_unfolding_all exact rfl) (by with_unfolding_all exact rfl) (by with_unfolding_all exact rfl) (by with_unfolding_all exact rfl) ?_)
                        (with_reducible refine E_Repl (nm := "lower") (turn := Txt.lower) repl_lower (by with_unfolding_all exact rfl) (by with_unfolding_all exact rfl) (by with_unfolding_all exact rfl) (by with_unfolding_all exact rfl) (by with_unfolding_all exact rfl) ?_)
                        repeat kbo_bools
                        (with_reducible refine ⟨_, rfl, ?_⟩)
                        repeat kbo_bools
                        (with_reducible refine ⟨_, rfl, ?_⟩)
                        repeat kbo_bools
                        (with_reducible refine ⟨rfl, q1, q2, Nat.le_of_ble_eq_true q3, _, rfl, ?_⟩)
                        repeat kbo_bools
                        (with_reducible refine ⟨_, rfl, ?_⟩)
                        repeat kbo_bools
                        (with_reducible refine ⟨rfl, q4, q5, Nat.le_of_ble_eq_true q6, ?_⟩)
                        repeat kbo_bools
                        cases hP : P.lookup (exch tree out into) with
                        | none => rw [hP] at hg1; cases hg1
                        | some n =>
                          rw [hP] at hg1
                          dsimp only at hg1
                          have hPd : (P.map fun p => (p.1, D.int p.2)).lookup (Txt.replace (Txt.replace tree out (Txt.lower out)) into (Txt.upper into)) = some (.int n) := by
                            rw [show (P.map fun p => (p.1, D.int p.2)) = di P from rfl, di_lookup, show P.lookup (Txt.replace (Txt.replace tree out (Txt.lower out)) into (Txt.upper into)) = some n from hP]; rfl
                          (with_reducible refine sub_d (by intro _ _; with_unfolding_all rfl) .dct hPd ?_)
                          repeat kbo_bools
                          cases hn1 : (n == 1) with
                          | false =>
                            rw [hn1] at hg1
                            simp only [Bool.false_eq_true, if_false] at hg1
                            cases hg1
                            repeat kbo_bools
                            exact ⟨w5, ins, _, _, rfl, hg2, rfl⟩
                          | true =>
                            rw [hn1] at hg1
                            simp only [if_true] at hg1
                            repeat kbo_bools
                            (with_reducible refine E_Meth (by with_unfolding_all exact rfl) (by with_unfolding_all exact rfl) (by with_unfolding_all exact rfl) ?_)
                            repeat kbo_bools
                            (with_reducible refine ⟨_, gm_append (.ref (by kd_mem)), ?_⟩)
                            repeat kbo_bools
                            (with_reducible refine append_m (by kd_mem) (by rw [List.length_map, z]; have := Nat.le_of_ble_eq_true q7; omega) ?_)
                            (with_reducible refine ⟨rfl, ?_⟩)
                            have eS : w5.steps.map stepD ++ [.tup [.str tree, .sg out, .sg into]] = (w5.steps ++ [(tree, out, into)]).map stepD := by simp
                            rw [eS]
                            repeat kbo_bools
                            (with_reducible refine notin_l (.ref (by kd_mem)) (strs_sts _) ?_)
                            repeat kbo_bools
                            cases hm : w5.met.any (· == exch tree out into) with
                            | true =>
                              rw [hm] at hg1
                              simp only [if_true] at hg1
                              cases hg1
                              rw [show (w5.met.any fun x => x == Txt.replace (Txt.replace tree out (Txt.lower out)) into (Txt.upper into)) = true from hm]
                              (with_reducible refine if_nt ?_)
                              repeat kbo_bools
                              exact ⟨_, ins, _, _, rfl, hg2, rfl⟩
                            | false =>
                              rw [hm] at hg1
                              simp only [Bool.false_eq_true, if_false] at hg1
                              cases hg1
                              rw [show (w5.met.any fun x => x == Txt.replace (Txt.replace tree out (Txt.lower out)) into (Txt.upper into)) = false from hm]
                              (with_reducible refine if_nf ?_)
                              repeat kbo_bools
                              (with_reducible refine E_Meth (by with_unfolding_all exact rfl) (by with_unfolding_all exact rfl) (by with_unfolding_all exact rfl) ?_)
                              repeat kbo_bools
                              (with_reducible refine ⟨_, gm_append (.ref (by kd_mem)), ?_⟩)
                              repeat kbo_bools
                              (with_reducible refine append_m (by kd_mem) (by rw [List.length_map, z]; have := Nat.le_of_ble_eq_true q8; omega) ?_)
                              (with_reducible refine ⟨rfl, ?_⟩)
                              have eM : sts w5.met ++ [.str (Txt.replace (Txt.replace tree out (Txt.lower out)) into (Txt.upper into))] = sts (w5.met ++ [exch tree out into]) := by simp [exch]
                              rw [eM]
                              repeat kbo_bools
                              (with_reducible refine E_CallF (by with_unfolding_all exact rfl) (by with_unfolding_all exact rfl) ?_)
                              repeat kbo_bools
                              refine ⟨_, _, _, rfl, G₁.K 87 _ rfl, rfl, ?_⟩
                              repeat kbo_bools
                              (with_reducible refine spec_heappush (xs := w5.heap) G₁ (by omega) (by have := Nat.le_of_ble_eq_true q9; omega) (by kd_mem) ?_)
                              have eO : Txt.replace (Txt.replace tree out (Txt.lower out)) into (Txt.upper into) = exch tree out into := rfl
                              rw [eO]
                              generalize exch tree out into = ot at hg2 ⊢
                              (with_reducible refine ⟨rfl, ?_⟩)
                              repeat kbo_bools
                              exact ⟨_, ins, _, _, rfl, hg2, rfl⟩
                    · rintro σ' ⟨w5, ins, o3, o4, hr, hf, rfl⟩
                      cases ins with
                      | cons into ins => cases hr
                      | nil =>
                        cases hf
                        exact ⟨.lst, rfl, _, _, rfl⟩
                · rintro fl σ₂ ⟨rfl, o3, o4, rfl⟩
                  repeat kbo_bools
                  exact ⟨w4, outs, _, _, _, rfl, hf2, rfl⟩
            · rintro σ' ⟨w3, outs, o2, o3, o4, hr, hf, rfl⟩
              cases outs with
              | cons out outs => cases hr
              | nil =>
                cases hf
                exact ⟨.lst, rfl, _, _, _, rfl⟩
        · rintro fl σ₂ ⟨rfl, o2, o3, o4, rfl⟩
          repeat kbo_bools
          exact ⟨n, Nat.lt_succ_self _, w2, _, _, _, _, h2, rfl⟩
    · cases hn
end

/-! the headers -/
theorem ok252 (P : Params) : ClsOk (laid P) 252 "_headers" := ⟨by kernel_rfl, by kernel_rfl, by kernel_rfl, by kernel_rfl, by kernel_rfl, by kernel_rfl, by kernel_rfl, by kernel_rfl⟩
section
variable {c : Cx} {σ τ : Sig} {f : Ob → Sig} {X : List Addr} {s s₁ : Shared} {env : Env}
theorem gm_search {p : Addr} {vs : Array Value} (hp : c.B.get? p = some { cls := .type "re.Pattern", data := .fields vs }) : GM c "search" (.val (.ref p)) σ "re.Pattern.search" := fun X s v pl P S r h => by
  (first | obtain ⟨_, rfl⟩ := DV.iX r | obtain ⟨_, rfl⟩ := DV.sX r | obtain rfl := DV.nX r | obtain rfl := DV.bX r | obtain rfl := DV.vX r | obtain rfl := DVs.zX r | cases r)
  have e := S.keep _ _ hp
  exact getMethod_builtin ⟨_, e, rfl⟩ plainAttrs_re slot_re_search type_re_search (fun a q => by cases q; exact ⟨_, e, rfl⟩) h

theorem Loop_nil {target : Expr} {body : List Stmt} {Kσ : Sig → Prop} {Q : Fl → Sig → Prop} (hk : Kσ σ) (h : Q .next σ) : Loop c target body env Kσ [] σ Q := ⟨hk, h⟩
theorem WB.of {fd : FuncData} {kw : List (Str × Value)} {ds : List D} {ps : List Str} (h : ∀ (s : Shared) (vals : List Value), (∀ b o, c.B.get? b = some o → s.heap.get? b = some o) → vals.length = ds.length → BindsTo s fd ⟨vals, kw⟩ (ps.zip vals)) : WB c fd kw ds σ ps ds := fun X s vals S r =>
  h s vals S.keep r.length _ _ _ _ ⟨vals, rfl, S, r, .refl ..⟩
theorem spec_Headers (G : Gd c) (hroom : c.A.depth < 800) {a : Addr} {Q : D → Sig → Prop} (H : Hole a (.list []) σ f) (hQ : Q (.inst 252 "_headers" (.val (.ref a))) σ) : WL c c.DV (fun vs => call (.ref 252) vs) [.val (.ref a)] σ Q := by
  refine new_inst G.K (ok252 _).makes (by kernel_rfl : findIn (laid c.w.params) (.ref 252) "__init__" = some (some (.ref 146))) (by kernel_rfl) fun A' x dx hdep hh hun => ?_
  have G' : Gd { c with A := A' } := ⟨G.K, G.top, G.nolimit, hh.trans G.hh, by have := G.units; show A'.units ≤ 4 + 4 * A'.depth; omega⟩
  have ho : ({ c with A := A' } : Cx).B.get? 146 = some (fnObj _ _ _ _ _ _ _ _ _) := G'.K 146 _ rfl
  refine call_F0 (ps := ["self", "headers"]) (ns := ["self", "headers", "k", "v"]) ho (by unfold recursionLimit; show A'.depth < 1000; omega) G'.nolimit (codeOf G' (by kernel_rfl)) [some (.val (.ref x)), some (.val (.ref a)), none, none] (by kernel_rfl) (WB.of ?_) (by kernel_rfl) (by kernel_rfl) fun L => inF G' fun c₁ G₁ hd => ?_
  · intro s vals hk hl
    match vals, hl with
    | [u, v], _ => exact BindsTo.of_defaults rfl (hk _ _ (G.K 139 _ rfl)) rfl (by with_unfolding_all rfl) (by with_unfolding_all rfl)
  repeat kbo_bools
  (with_reducible refine isNot_none rfl ?_)
  repeat kbo_bools
  (with_reducible refine E_CallT (by with_unfolding_all exact rfl) (by with_unfolding_all exact rfl) (by with_unfolding_all exact rfl) ?_)
  repeat kbo_bools
  (with_reducible refine ⟨_, rfl, ?_⟩)
  repeat kbo_bools
  (with_reducible refine type_l (.ref (.tail (.tail (.tail H)))) ?_)
  repeat kbo_bools
  (with_reducible refine isNot_ty ?_)
  repeat kbo_bools
  (with_reducible refine set_attr G₁.K (ok252 _) (.tail .head) (.tail (.tail .head)) ?_)
  repeat kbo_bools
  (with_reducible refine T_plain (by with_unfolding_all exact rfl) ?_)
  repeat kbo_bools
  (with_reducible refine S_For (by intro _; with_unfolding_all exact rfl) ?_)
  repeat kbo_bools
  (with_reducible refine ⟨_, _, src_seq G₁.hh (.ref (.tail (.tail (.tail H)))), ?_⟩)
  (with_reducible refine Loop_nil (.ref (.tail (.tail (.tail H)))) ?_)
  repeat kbo_bools
  exact ⟨_, _, .next, .more .done, rfl, _, _, _, rfl, hQ⟩
end

/-! converting -/
section
variable {c : Cx} {σ τ : Sig} {f : Ob → Sig} {X : List Addr} {s s₁ : Shared} {env : Env}
noncomputable def nameCode : Array Nat := #[14, 10, 4, 1, 1, 22, 0, 31, 16, 127, 0, 13, 7, 22, 0, 31, 16, 127, 0, 1]
noncomputable def valueCode : Array Nat := #[14, 14, 4, 1, 1, 9, 4294966783, 0, 0, 2147483648, 0, 0, 0, 0, 0, 13, 11, 9, 4294966783, 0, 0, 2147483648, 0, 0, 0, 0, 0, 1]
noncomputable def reOk (b : Bool) (x : Str) : Bool := fails 100 (Sre.forSearch (if b then nameCode else valueCode) x.cps 0 0 (min (2 ^ 63 - 1 : Int).toNat x.cps.size) false)
theorem re_eq {a b : Array Nat} {x : Str} {n : Nat} (e : a = b) (h : fails 100 (Sre.forSearch b x.cps 0 0 n false) = true) : fails 100 (Sre.forSearch a x.cps 0 (min (0 : Int).toNat x.cps.size) n false) = true := by
  subst e
  rw [show (0 : Int).toNat = 0 from rfl, Nat.zero_min]
  exact h
theorem wp_eq {α : Type} {M : Model} {A : Around} {E : Value → Shared → Prop} {t u : Sem α} {P : α → Shared → Prop} (e : t = u) (h : wpAny M A u P E s) : wpAny M A t P E s := e ▸ h
theorem truthy_none {Q : Bool → Sig → Prop} (h : Q false σ) : W1 c eqR truthy .none σ Q := fun X s v S r => by
  (first | obtain ⟨_, rfl⟩ := DV.iX r | obtain ⟨_, rfl⟩ := DV.sX r | obtain rfl := DV.nX r | obtain rfl := DV.bX r | obtain rfl := DV.vX r | obtain rfl := DVs.zX r | cases r)
  exact wpAny_pure (post_here S rfl h)
theorem search_name (G : Gd c) {x : Str} {Q : D → Sig → Prop} (hf : reOk true x = true) (h : Q .none σ) : WL c c.DV (fun vs => call (.builtin "re.Pattern.search") vs) [.val (.ref 118), .str x] σ Q :=
  search_m (G.K 118 _ rfl) (G.K 117 _ rfl) (k := 100) (re_eq (by decide +kernel) hf) (by decide) h
theorem search_value (G : Gd c) {x : Str} {Q : D → Sig → Prop} (hf : reOk false x = true) (h : Q .none σ) : WL c c.DV (fun vs => call (.builtin "re.Pattern.search") vs) [.val (.ref 123), .str x] σ Q :=
  search_m (G.K 123 _ rfl) (G.K 122 _ rfl) (k := 100) (re_eq (by decide +kernel) hf) (by decide) h

theorem spec_convert (G : Gd c) (hroom : c.A.depth < 800) {d : D} {x : Str} {b : Bool} {Q : D → Sig → Prop} (hf : reOk b x = true) (hQ : Q (.str x) σ) : WL c c.DV (fun vs => call (.ref 153) vs [("name", .bool b)]) [d, .str x] σ Q := by
  have ho : c.B.get? 153 = some (fnObj _ _ _ _ _ _ _ _ _) := G.K 153 _ rfl
  (with_reducible refine WC.call ?_)
  (with_reducible refine call_F0 (ps := ["self", "value", "name"]) (ns := ["self", "value", "name", "regex"]) (ds' := [d, .str x, .bool b]) ho (by unfold recursionLimit; omega) G.nolimit (codeOf G (by kernel_rfl)) [some d, some (.str x), some (.bool b), none] (by kernel_rfl) ?_ (by kernel_rfl) (by kernel_rfl) fun L => inF G fun c₁ G₁ hd => ?_)
  · intro X s vals S r
    obtain ⟨u, _, rfl, r₁, r⟩ := DVs.cX r
    obtain ⟨v, _, rfl, r₂, r⟩ := DVs.cX r
    (first | obtain ⟨_, rfl⟩ := DV.iX r | obtain ⟨_, rfl⟩ := DV.sX r | obtain rfl := DV.nX r | obtain rfl := DV.bX r | obtain rfl := DV.vX r | obtain rfl := DVs.zX r | cases r)
    refine wp_eq (u := pure ((["self", "value", "name"] : List Str).zip [u, v, .bool b])) (by with_unfolding_all rfl) ?_
    exact wpAny_pure ⟨_, rfl, S, .cons r₁ (.cons r₂ (.cons (.bool b) .nil)), .refl ..⟩
  repeat kbo_bools
  (with_reducible refine E_CallT (by with_unfolding_all exact rfl) (by with_unfolding_all exact rfl) (by with_unfolding_all exact rfl) ?_)
  repeat kbo_bools
  (with_reducible refine ⟨_, rfl, ?_⟩)
  repeat kbo_bools
  (with_reducible refine type_s ?_)
  repeat kbo_bools
  (with_reducible refine is_ty ?_)
  repeat kbo_bools
  (with_reducible refine T_plain (by with_unfolding_all exact rfl) ?_)
  repeat kbo_bools
  cases b with
  | true =>
    repeat kbo_bools
    (with_reducible refine T_plain (by with_unfolding_all exact rfl) ?_)
    (with_reducible refine E_Meth (by with_unfolding_all exact rfl) (by with_unfolding_all exact rfl) (by with_unfolding_all exact rfl) ?_)
    repeat kbo_bools
    refine ⟨_, gm_search (G₁.K 118 _ rfl), ?_⟩
    repeat kbo_bools
    (with_reducible refine search_name G₁ hf ?_)
    (with_reducible refine truthy_none ?_)
    repeat kbo_bools
    exact ⟨_, _, .ret _, .more .done, hQ⟩
  | false =>
    repeat kbo_bools
    (with_reducible refine T_plain (by with_unfolding_all exact rfl) ?_)
    (with_reducible refine E_Meth (by with_unfolding_all exact rfl) (by with_unfolding_all exact rfl) (by with_unfolding_all exact rfl) ?_)
    repeat kbo_bools
    refine ⟨_, gm_search (G₁.K 123 _ rfl), ?_⟩
    repeat kbo_bools
    (with_reducible refine search_value G₁ hf ?_)
    (with_reducible refine truthy_none ?_)
    repeat kbo_bools
    exact ⟨_, _, .ret _, .more .done, hQ⟩
end

/-! headers: the methods -/
noncomputable abbrev hdD (d : D) : D := .inst 252 "_headers" d
noncomputable abbrev rowS (p : Str × Str) : D := .tup [.str p.1, .str p.2]
section
variable {c : Cx} {σ τ : Sig} {f : Ob → Sig} {X : List Addr} {s s₁ : Shared} {env : Env}
theorem handed_lst' {ds : List D} : ∀ s bad v, c.DV s bad v (.lst ds) → handedIn v = true := fun s bad v r => by (first | obtain ⟨_, rfl⟩ := DV.iX r | obtain ⟨_, rfl⟩ := DV.sX r | obtain rfl := DV.nX r | obtain rfl := DV.bX r | obtain rfl := DV.vX r | obtain rfl := DVs.zX r | cases r); rfl
theorem handed_ref' {a : Addr} : ∀ s bad v, c.DV s bad v (.val (.ref a)) → handedIn v = true := fun s bad v r => by (first | obtain ⟨_, rfl⟩ := DV.iX r | obtain ⟨_, rfl⟩ := DV.sX r | obtain rfl := DV.nX r | obtain rfl := DV.bX r | obtain rfl := DV.vX r | obtain rfl := DVs.zX r | cases r); rfl
theorem E_SliceA {value : Expr} {lower upper : Option Expr} {p pos : Pos} {Q : D → Sig → Prop} (hs : ∀ o r, subscripted (.Slice lower upper none p) false o r = operate [r, o] (getItem o r))
    (h : WE c value env σ fun d σ₁ => WP c lower env σ₁ fun dl σ₂ => WP c upper env σ₂ fun du σ₃ => ∃ ds lo hi, Seqs σ₃ d ds ∧ ds.length ≤ 1000000 ∧ PartD dl lo ∧ PartD du hi ∧ Q (.lst (pickD ds lo hi)) σ₃) :
    WE c (.Subscript value (.Slice lower upper none p) pos) env σ Q := fun X s S =>
  Subscript_ (h.then S fun v s₁ d τ₁ h₁ r₁ S₁ x₁ => wpAny_Slice (h₁.then S₁ fun vl s₂ dl τ₂ h₂ r₂ S₂ x₂ => h₂.then S₂ fun vu s₃ du τ₃ h₃ r₃ S₃ x₃ => by
    obtain ⟨ds, lo, hi, hd, hz, pl, pu, hq⟩ := h₃
    obtain ⟨b, vs, n, rfl, e, q⟩ := hd.at S₃ (r₁.grow ((x₂.trans x₃).grow X))
    have z := q.length
    rw [evalPart_none]
    refine wpAny_pure ?_
    refine tail_any ((isList_lst e).push _).typeIs slot_list_getitem.lookup (wpAny_getItem_list_slice ((isList_lst e).push _) (Heap.IsSliceOf.new ..) (pl.of (r₂.grow (x₃.grow X))) (pu.of r₃) .none (by simp) ?_ (by rw [List.size_toArray, sizeLine_eq]; omega)) (hs _ _)
    rw [kms_pick_eq]
    have hp : c.DVs s₃ (X ++ adrs τ₃) (kms_pick vs lo hi) (pickD ds lo hi) := by
      unfold kms_pick pickD
      rw [z]
      exact q.drop.take
    have S₄ := S₃.pushed (o := { cls := .type "slice", data := .fields #[vl, vu, .none] })
    exact ⟨.lst _, τ₃, hq, new_lst S₄ (hp.grow grow_push), S₄.pushed, x₁.trans (x₂.trans (x₃.trans (Step.pushed.trans .pushed)))⟩))
theorem eq_s {x y : Str} {Q : D → Sig → Prop} (h : Q (.bool (x == y)) σ) : W2 c c.DV (compareOp .Eq) (.str x) (.str y) σ Q := fun X s _ _ S r₁ r₂ => by
  (first | obtain ⟨_, rfl⟩ := DV.iX r₁ | obtain ⟨_, rfl⟩ := DV.sX r₁ | obtain rfl := DV.nX r₁ | obtain rfl := DV.bX r₁ | obtain rfl := DV.vX r₁ | obtain rfl := DVs.zX r₁ | cases r₁); (first | obtain ⟨_, rfl⟩ := DV.iX r₂ | obtain ⟨_, rfl⟩ := DV.sX r₂ | obtain rfl := DV.nX r₂ | obtain rfl := DV.bX r₂ | obtain rfl := DV.vX r₂ | obtain rfl := DVs.zX r₂ | cases r₂); (with_reducible refine eq_str ?_); exact post_here S (.bool _) h
theorem fin_in (P : Params) {name : Str} {a : Addr} (h : findIn (laid P) (.ref 252) name = some (some (.ref a))) : findIn (laid P) (.ref 252) name = some (some (.ref a)) := h
theorem gmf_convert {d : D} (G : Gd c) : GMF c "_convert_string_type" (hdD d) σ 153 := gmf G.K (ok252 _) (by kernel_rfl) (by kernel_rfl) (by decide)
theorem gmf_add_header {d : D} (G : Gd c) : GMF c "add_header" (hdD d) σ 249 := gmf G.K (ok252 _) (by kernel_rfl) (by kernel_rfl) (by decide)
theorem gmf_items {d : D} (G : Gd c) : GMF c "items" (hdD d) σ 216 := gmf G.K (ok252 _) (by kernel_rfl) (by kernel_rfl) (by decide)
theorem gmf_keys {d : D} (G : Gd c) : GMF c "keys" (hdD d) σ 204 := gmf G.K (ok252 _) (by kernel_rfl) (by kernel_rfl) (by decide)
theorem gmf_get_all {d : D} (G : Gd c) : GMF c "get_all" (hdD d) σ 191 := gmf G.K (ok252 _) (by kernel_rfl) (by kernel_rfl) (by decide)
theorem keep153 (P : Params) : keepIn (laid P) (.ref 153) = true := by kernel_rfl
theorem keep249 (P : Params) : keepIn (laid P) (.ref 249) = true := by kernel_rfl
theorem keep216 (P : Params) : keepIn (laid P) (.ref 216) = true := by kernel_rfl
theorem keep204 (P : Params) : keepIn (laid P) (.ref 204) = true := by kernel_rfl
theorem keep191 (P : Params) : keepIn (laid P) (.ref 191) = true := by kernel_rfl

theorem spec_add_header (G : Gd c) (hroom : c.A.depth < 700) {a : Addr} {rows : List D} {x y : Str} {Q : D → Sig → Prop} (H : Hole a (.list rows) σ f) (hz : rows.length ≤ 1000) (hx : reOk true x = true) (hy : reOk false y = true) (hl : Nat.ble y.length 1000 = true)
    (hQ : Q .none (f (.list (rows ++ [.tup [.str x, .str y]])))) : WL c c.DV (fun vs => call (.ref 249) vs) [hdD (.val (.ref a)), .str x, .str y] σ Q := by
  have ho : c.B.get? 249 = some (fnObj _ _ _ _ _ _ _ _ _) := G.K 249 _ rfl
  have z := sizeLine_eq
  (with_reducible refine WC.call ?_)
  (with_reducible refine call_F0 (ps := ["self", "_name", "_value", "_params"]) (ns := ["self", "_name", "_value", "_params", "parts", "k", "v"]) (ds' := [hdD (.val (.ref a)), .str x, .str y, .dct []]) ho (by unfold recursionLimit; omega) G.nolimit (codeOf G (by kernel_rfl)) [some (hdD (.val (.ref a))), some (.str x), some (.str y), some (.dct []), none, none, none] (by kernel_rfl) ?_ (by kernel_rfl) (by kernel_rfl) fun L => inF G fun c₁ G₁ hd => ?_)
  · intro X s vals S r
    obtain ⟨u, _, rfl, r₁, r⟩ := DVs.cX r
    obtain ⟨v, _, rfl, r₂, r⟩ := DVs.cX r
    obtain ⟨w, _, rfl, r₃, r⟩ := DVs.cX r
    (first | obtain ⟨_, rfl⟩ := DV.iX r | obtain ⟨_, rfl⟩ := DV.sX r | obtain rfl := DV.nX r | obtain rfl := DV.bX r | obtain rfl := DV.vX r | obtain rfl := DVs.zX r | cases r)
    refine wp_eq (u := alloc { cls := .type "dict", data := .dict #[] } >>= fun d => pure ((["self", "_name", "_value", "_params"] : List Str).zip [u, v, w, .ref d])) (by with_unfolding_all rfl) ?_
    refine wpAny_bind (wpAny_alloc (wpAny_pure ⟨_, rfl, S.pushed, .cons (r₁.grow grow_push) (.cons (r₂.grow grow_push) (.cons (r₃.grow grow_push) (.cons (.dct ?_ (Heap.DictOf.new _) (fresh_bad S) .nil) .nil))), .pushed⟩))
    obtain ⟨b₀, o, hle, e⟩ := S.mods
    exact beq_eq_false_iff_ne.mpr (Nat.ne_of_gt (Nat.lt_of_le_of_lt hle (Heap.lt_size (S.keep _ _ e))))
  repeat kbo_bools
  (with_reducible refine E_List_new ?_)
  repeat kbo_bools
  intro pa
  repeat kbo_bools
  (with_reducible refine isNot_none_str ?_)
  repeat kbo_bools
  (with_reducible refine E_MethFK G₁.K (by with_unfolding_all exact rfl) (by with_unfolding_all exact rfl) (by with_unfolding_all exact rfl) ?_)
  repeat kbo_bools
  (with_reducible refine ⟨_, gmf_convert G₁, keep153 _, ?_⟩)
  repeat kbo_bools
  (with_reducible refine spec_convert G₁ (by omega) hy ?_)
  repeat kbo_bools
  (with_reducible refine E_Meth (by with_unfolding_all exact rfl) (by with_unfolding_all exact rfl) (by with_unfolding_all exact rfl) ?_)
  repeat kbo_bools
  (with_reducible refine ⟨_, gm_append (.ref (by kd_mem)), ?_⟩)
  repeat kbo_bools
  (with_reducible refine append_m (by kd_mem) (by rw [z]; decide) ?_)
  rw [List.nil_append]
  (with_reducible refine ⟨rfl, ?_⟩)
  repeat kbo_bools
  (with_reducible refine S_For (by intro _; with_unfolding_all exact rfl) ?_)
  (with_reducible refine E_Meth0 (by with_unfolding_all exact rfl) ?_)
  repeat kbo_bools
  (with_reducible refine ⟨_, gm_items .dct, items_m ?_⟩)
  refine ⟨_, _, src_items G₁.hh, Loop_nil trivial ?_⟩
  repeat kbo_bools
  (with_reducible refine E_gone ?_)
  (with_reducible refine E_Meth (by with_unfolding_all exact rfl) (by with_unfolding_all exact rfl) (by with_unfolding_all exact rfl) ?_)
  (with_reducible refine E_Attr (by with_unfolding_all exact rfl) ?_)
  repeat kbo_bools
  (with_reducible refine get_attr G₁.K (ok252 _) handed_ref' ?_)
  (with_reducible refine ⟨_, gm_append (.ref (.tail (.tail H))), ?_⟩)
  repeat kbo_bools
  (with_reducible refine E_MethFK G₁.K (by with_unfolding_all exact rfl) (by with_unfolding_all exact rfl) (by with_unfolding_all exact rfl) ?_)
  repeat kbo_bools
  (with_reducible refine ⟨_, gmf_convert G₁, keep153 _, ?_⟩)
  repeat kbo_bools
  (with_reducible refine spec_convert G₁ (by omega) hx ?_)
  repeat kbo_bools
  (with_reducible refine E_Meth (by with_unfolding_all exact rfl) (by with_unfolding_all exact rfl) (by with_unfolding_all exact rfl) ?_)
  repeat kbo_bools
  (with_reducible refine ⟨_, gmS_join, ?_⟩)
  repeat kbo_bools
  (with_reducible refine join_m (.ref (by kd_mem)) (.str .nil) ?_ ?_)
  · have := Nat.le_of_ble_eq_true hl
    unfold JoinOk
    show (!Builtin.Str.tooLong ([y].toArray.foldl (fun n p => n + p.length + (Str.ofString "; ").length) 0)) = true
    have e : [y].toArray.foldl (fun n p => n + p.length + (Str.ofString "; ").length) 0 = y.length + 2 := by
      show 0 + y.length + 2 = _
      omega
    rw [e]
    unfold Builtin.Str.tooLong
    simp
    omega
  repeat kbo_bools
  (with_reducible refine append_m (.tail (.tail H)) (by rw [z]; omega) ?_)
  (with_reducible refine ⟨_, _, _, .head, ?_⟩)
  (with_reducible refine ⟨rfl, ?_⟩)
  repeat kbo_bools
  exact ⟨_, _, .next, .more .done, hQ⟩
theorem pick_all (ds : List D) : pickD ds none none = ds := by
  unfold pickD
  simp [kms_lo, kms_hi]
theorem spec_items (G : Gd c) (hroom : c.A.depth < 700) {ds : List D} {Q : D → Sig → Prop} (hz : ds.length ≤ 1000) (hQ : Q (.lst ds) σ) : WL c c.DV (fun vs => call (.ref 216) vs) [hdD (.lst ds)] σ Q := by
  have ho : c.B.get? 216 = some (fnObj _ _ _ _ _ _ _ _ _) := G.K 216 _ rfl
  (with_reducible refine WC.call ?_)
  (with_reducible refine call_F0 (ps := ["self"]) (ns := ["self"]) ho (by unfold recursionLimit; omega) G.nolimit (codeOf G (by kernel_rfl)) [some (hdD (.lst ds))] (by kernel_rfl) (WB.pure ?_) (by kernel_rfl) (by kernel_rfl) fun L => inF G fun c₁ G₁ hd => ?_)
  · intro vals hl
    match vals, hl with
    | [a], _ => with_unfolding_all rfl
  (with_reducible refine X_cons (S_Return (E_SliceA (by intro _ _; with_unfolding_all rfl) ?_)))
  (with_reducible refine E_Attr (by with_unfolding_all exact rfl) ?_)
  repeat kbo_bools
  (with_reducible refine get_attr G₁.K (ok252 _) handed_lst' ?_)
  (with_reducible refine P_none ?_)
  (with_reducible refine P_none ?_)
  refine ⟨_, _, _, .lst, by omega, .none, .none, ?_⟩
  rw [pick_all]
  exact ⟨_, _, .ret _, .more .done, hQ⟩

theorem spec_keys (G : Gd c) (hroom : c.A.depth < 700) {rows : List (Str × Str)} {Q : D → Sig → Prop} (hz : rows.length ≤ 1000) (hQ : Q (.lst (rows.map fun p => .str p.1)) σ) : WL c c.DV (fun vs => call (.ref 204) vs) [hdD (.lst (rows.map rowS))] σ Q := by
  have ho : c.B.get? 204 = some (fnObj _ _ _ _ _ _ _ _ _) := G.K 204 _ rfl
  have z := sizeLine_eq
  (with_reducible refine WC.call ?_)
  (with_reducible refine call_F0 (ps := ["self"]) (ns := ["self"]) ho (by unfold recursionLimit; omega) G.nolimit (codeOf G (by kernel_rfl)) [some (hdD (.lst (rows.map rowS)))] (by kernel_rfl) (WB.pure ?_) (by kernel_rfl) (by kernel_rfl) fun L => inF G fun c₁ G₁ hd => ?_)
  · intro vals hl
    match vals, hl with
    | [a], _ => with_unfolding_all rfl
  repeat kbo_bools
  (with_reducible refine E_MapC ["k", "v"] [] ⟨by with_unfolding_all exact rfl, by decide, by with_unfolding_all exact rfl, by decide, by decide⟩ (by intro _; with_unfolding_all exact rfl) ?_)
  (with_reducible refine E_Attr (by with_unfolding_all exact rfl) ?_)
  repeat kbo_bools
  (with_reducible refine get_attr G₁.K (ok252 _) handed_lst' ?_)
  refine ⟨_, _, fun d => match d with | .tup [x, _] => x | d => d, by rw [List.length_map, z]; omega, src_seq G₁.hh .lst, fun _ => .lst, ?_, ?_⟩
  · intro C d hd' vals hv
    obtain ⟨p, hp, rfl⟩ := List.mem_map.mp hd'
    match vals, hv with
    | [o1, o2], _ =>
      (with_reducible refine A_Tuple G₁.hh (by with_unfolding_all exact rfl) (by with_unfolding_all exact rfl) ?_)
      repeat kbo_bools
      (with_reducible refine ⟨[some (.str p.1), some (.str p.2)], rfl, rfl, ?_⟩)
      repeat kbo_bools
      exact ⟨rfl, rfl⟩
  · rw [List.map_map]
    exact ⟨_, _, .ret _, .more .done, hQ⟩

theorem spec_get_all (G : Gd c) (hroom : c.A.depth < 700) {rows : List (Str × Str)} {x : Str} {Q : D → Sig → Prop} (hz : rows.length ≤ 1000) (hlx : Txt.lower x = x) (hfx : Builtin.Str.tooLong x.length = false) (hx : reOk true x = true)
    (hr : ∀ p ∈ rows, Txt.lower p.1 = x) (hQ : Q (.lst (rows.map fun p => .str p.2)) σ) : WL c c.DV (fun vs => call (.ref 191) vs) [hdD (.lst (rows.map rowS)), .str x] σ Q := by
  have ho : c.B.get? 191 = some (fnObj _ _ _ _ _ _ _ _ _) := G.K 191 _ rfl
  have z := sizeLine_eq
  (with_reducible refine WC.call ?_)
  (with_reducible refine call_FC (ps := ["self", "name"]) (ns := ["self"]) ho (by unfold recursionLimit; omega) G.nolimit (codeOf G (by kernel_rfl)) [some (hdD (.lst (rows.map rowS)))] (fun L => (L + 1, .cell (some (.str x))) :: σ) (by kernel_rfl) (WB.pure ?_) (by kernel_rfl) (by intro L; kernel_rfl) 2 fun L => inF G fun c₁ G₁ hd => ?_)
  · intro vals hl
    match vals, hl with
    | [a, b], _ => with_unfolding_all rfl
  repeat kbo_bools
  (with_reducible refine E_MethFK G₁.K (by with_unfolding_all exact rfl) (by with_unfolding_all exact rfl) (by with_unfolding_all exact rfl) ?_)
  repeat kbo_bools
  (with_reducible refine ⟨_, gmf_convert G₁, keep153 _, ?_⟩)
  (with_reducible refine I_cons (by with_unfolding_all exact rfl) ?_)
  (with_reducible refine E_weak (x := x) ?_)
  (with_reducible refine E_Meth0 (by with_unfolding_all exact rfl) ?_)
  repeat kbo_bools
  (with_reducible refine ⟨_, gmS_lower, lower_m (by rw [hlx]; exact hfx) ?_⟩)
  rw [hlx]
  (with_reducible refine ⟨rfl, ?_⟩)
  repeat kbo_bools
  (with_reducible refine spec_convert G₁ (by omega) hx ?_)
  repeat kbo_bools
  (with_reducible refine E_FilterC ["kv"] [("name", L + 1)] ⟨by with_unfolding_all exact rfl, by decide, by with_unfolding_all exact rfl, by decide, by decide⟩ (by intro _; with_unfolding_all exact rfl) ?_)
  (with_reducible refine E_Attr (by with_unfolding_all exact rfl) ?_)
  repeat kbo_bools
  (with_reducible refine get_attr G₁.K (ok252 _) handed_lst' ?_)
  refine ⟨_, _, fun _ => true, fun d => match d with | .tup [_, y] => y | d => d, by rw [List.length_map, z]; omega, src_seq G₁.hh .lst, fun _ => .lst, ?_, ?_⟩
  · intro C d hd' vals hv
    obtain ⟨p, hp, rfl⟩ := List.mem_map.mp hd'
    match vals, hv with
    | [o1], _ =>
      repeat kbo_bools
      (with_reducible refine ⟨[some (rowS p)], rfl, rfl, ?_⟩)
      repeat kbo_bools
      (with_reducible refine E_Meth0 (by with_unfolding_all exact rfl) ?_)
      repeat kbo_bools
      (with_reducible refine sub_t' (k := 0) (by intro _ _; with_unfolding_all rfl) (by decide) (by decide) (by with_unfolding_all exact rfl) ?_)
      (with_reducible refine ⟨_, gmS_lower, lower_m (by rw [hr p hp]; exact hfx) ?_⟩)
      rw [hr p hp]
      repeat kbo_bools
      (with_reducible refine W2.weak1 ?_)
      (with_reducible refine eq_s ?_)
      rw [beq_self_eq_true]
      repeat kbo_bools
      refine ⟨rfl, rfl, fun _ => ?_⟩
      repeat kbo_bools
      (with_reducible refine sub_t' (k := 1) (by intro _ _; with_unfolding_all rfl) (by decide) (by decide) (by with_unfolding_all exact rfl) ?_)
      exact ⟨rfl, rfl⟩
  · rw [List.filter_eq_self.mpr (fun _ _ => rfl), List.map_map]
    exact ⟨_, _, .ret _, .more (.more .done), hQ⟩
end

/-! the table -/
noncomputable def lessOf (d : Int) (ρ : List (Int × Int)) (j i : Nat) : Bool := decide (judge d (ρ.getD j (0, 0)) (ρ.getD i (0, 0)) < 0)
theorem foldl_putK {F : D → Str × D} : ∀ (l : List D) (acc : List (Str × D)), ((acc.map (·.1)) ++ (l.map fun d => (F d).1)).Nodup → l.foldl (fun es d => putK es (F d).1 (F d).2) acc = acc ++ l.map F
  | [], acc, _ => by simp
  | d :: l, acc, h => by
    rw [List.foldl_cons, putK_new, foldl_putK l]
    · simp
    · rw [List.map_append, List.append_assoc]
      exact h
    · intro hm
      rw [List.map_cons, List.nodup_append] at h
      exact h.2.2 _ hm _ (.head _) rfl
theorem keys_nodup {T : List Nat} (hT : T.Nodup) (h32 : ∀ m ∈ T, m < 32) : (T.map txt).Nodup := by
  induction T with
  | nil => exact .nil
  | cons m T ih =>
    rw [List.map_cons, List.nodup_cons]
    rw [List.nodup_cons] at hT
    refine ⟨fun hm => ?_, ih hT.2 fun x hx => h32 x (.tail _ hx)⟩
    obtain ⟨x, hx, e⟩ := List.mem_map.mp hm
    have := txt_inj x (h32 x (.tail _ hx)) m (h32 m (.head _)) e
    subst this
    exact hT.1 hx
theorem look_txt {g : Nat → D} {m : Nat} : ∀ {T : List Nat}, (∀ x ∈ T, x < 32) → m < 32 → m ∈ T → (T.map fun x => (txt x, g x)).lookup (txt m) = some (g m)
  | [], _, _, h => nomatch h
  | x :: T, h32, hm, h => by
    rw [List.map_cons, List.lookup_cons]
    by_cases q : m = x
    · subst q
      rw [beq_self_eq_true]
    · rw [beq_eq_false_iff_ne.mpr (fun e => q (txt_inj m hm x (h32 x (.head _)) e))]
      rcases List.mem_cons.mp h with e | h
      · exact absurd e q
      · exact look_txt (fun y hy => h32 y (.tail _ hy)) hm h
theorem putK_upd {T : List Nat} {g : Nat → D} {m : Nat} {v : D} (h32 : ∀ x ∈ T, x < 32) (hm : m < 32) (h : m ∈ T) : putK (T.map fun x => (txt x, g x)) (txt m) v = T.map fun x => (txt x, if x = m then v else g x) := by
  unfold putK
  rw [if_pos (by rw [List.any_eq_true]; exact ⟨(txt m, g m), List.mem_map.mpr ⟨m, h, rfl⟩, by simp⟩), List.map_map]
  refine List.map_congr_left fun x hx => ?_
  show (if txt x = txt m then (txt x, v) else (txt x, g x)) = _
  by_cases q : x = m
  · subst q; simp
  · rw [if_neg (fun e => q (txt_inj x (h32 x hx) m hm e)), if_neg q]
noncomputable abbrev lzD (less : Nat → Nat → Bool) (T : List Nat) (S : List (Nat × Nat × Nat)) : List (Str × D) := T.map fun x => (txt x, .str (tx (lzOf less S x)))
theorem putK_lz {less : Nat → Nat → Bool} {T : List Nat} {S : List (Nat × Nat × Nat)} {s : Nat × Nat × Nat} (h32 : ∀ x ∈ T, x < 32) (h : s.1 ∈ T) :
    putK (lzD less T S) (txt s.1) (.str (tx (lzOf less S s.1 ++ [if less s.2.2 s.2.1 then 65 + s.2.1 else 97 + s.2.2]))) = lzD less T (S ++ [s]) := by
  rw [putK_upd h32 (h32 _ h) h]
  refine List.map_congr_left fun x hx => ?_
  rw [lzOf_snoc]
  by_cases q : x = s.1
  · subst q; simp
  · rw [if_neg q, if_neg q]
noncomputable abbrev stepC (s : Nat × Nat × Nat) : D := .tup [.str (txt s.1), .sg (upS s.2.1), .sg (loS s.2.2)]
noncomputable abbrev walkD (T : List Nat) (S : List (Nat × Nat × Nat)) : D := .tup [.lst (T.map fun m => .str (txt m)), .lst (S.map stepC)]
noncomputable abbrev tabR (less : Nat → Nat → Bool) (S : List (Nat × Nat × Nat)) (m : Nat) : D := rowS (txt m, tx (firmL less S m))
noncomputable def notIn (y : Str) : D → Bool
  | .sg x => !Txt.contains y x
  | _ => false
theorem firm_filter (less : Nat → Nat → Bool) (S : List (Nat × Nat × Nat)) (m : Nat) : ((signs (txt m)).filter (notIn (tx (lzOf less S m)))).map id = (firmL less S m).map fun n => .sg (tx [n]) := by
  rw [List.map_id]
  have e : signs (txt m) = (sgns m).map fun n => .sg (tx [n]) := by
    unfold signs txt tx
    simp
  rw [e, List.filter_map]
  unfold firmL
  congr 1
  refine List.filter_congr fun n _ => ?_
  show (!Txt.contains (tx (lzOf less S m)) (tx [n])) = _
  rw [contains_one]
theorem strs_sg : ∀ l : List Nat, Strs (l.map fun n => .sg (tx [n])) (l.map fun n => tx [n])
  | [] => .nil
  | n :: l => .sg (strs_sg l)

section
variable {c : Cx} {σ τ : Sig} {f : Ob → Sig} {X : List Addr} {s s₁ : Shared} {env : Env}
theorem gmf_compare {d : Int} (G : Gd c) : GMF c "compare" (judgeD d) σ 59 := gmf G.K (ok62 _) (by kernel_rfl) (by kernel_rfl) (by decide)
theorem keep59 (P : Params) : keepIn (laid P) (.ref 59) = true := by kernel_rfl
theorem keep252 (P : Params) : keepIn (laid P) (.ref 252) = true := by kernel_rfl
theorem find_sg {x y : Str} {Q : D → Sig → Prop} (h : Q (.int (Txt.find x y)) σ) : WL c c.DV (fun vs => call (.builtin "str.find") vs) [.str x, .sg y] σ Q := fun X s vs S r => by
  obtain ⟨_, _, rfl, r₁, r⟩ := DVs.cX r
  obtain ⟨_, _, rfl, r₂, r⟩ := DVs.cX r
  (first | obtain ⟨_, rfl⟩ := DV.iX r | obtain ⟨_, rfl⟩ := DV.sX r | obtain rfl := DV.nX r | obtain rfl := DV.bX r | obtain rfl := DV.vX r | obtain rfl := DVs.zX r | cases r); exact find_m h X s _ S (.cons r₁ (.cons r₂.weak .nil))
/-- a class of the text's top is called -/
theorem E_CallC {K : Frag} {func e : Expr} {rest : List Expr} {pos : Pos} {Q : D → Sig → Prop} (X₀ : K.In c.B) (he : eval (.Call func (e :: rest) [] pos) env = (do callWith pos (← eval func env) [] (backTo pos (starEach (e :: rest) env)) (backToKw pos (keywordEach [] env))))
    (hp : plainArgs e rest env) (hpl : (backTo pos (starEach rest env)).any (·.1) = false)
    (h : WE c func env σ fun d σ₁ => ∃ v, d = .val v ∧ keepIn K v = true ∧ WI c (e :: rest) env pos σ₁ fun ds σ₂ => WL c c.DV (fun vs => call v vs) ds σ₂ Q) : WE c (.Call func (e :: rest) [] pos) env σ Q := fun X s S =>
  Call_ (h.then S fun v s₁ d τ₁ h₁ r₁ S₁ x₁ => by
    obtain ⟨v', rfl, hk, h₁⟩ := h₁
    (first | obtain ⟨_, rfl⟩ := DV.iX r₁ | obtain ⟨_, rfl⟩ := DV.sX r₁ | obtain rfl := DV.nX r₁ | obtain rfl := DV.bX r₁ | obtain rfl := DV.vX r₁ | obtain rfl := DVs.zX r₁ | cases r₁)
    exact callWith_K X₀ hk (h₁.then S₁ fun vs s₂ ds τ₂ h₂ r₂ S₂ x₂ => ⟨X₀.keeps S₂.keep, post_of (x₁.trans x₂) (h₂ X s₂ vs S₂ r₂)⟩) hp hpl) he
/-- the list that an object bears is turned no more -/
theorem E_iceI {e : Expr} {Q : D → Sig → Prop} (h : WE c e env σ fun d σ₁ => ∃ C k a ds σ₂, d = .inst C k (.val (.ref a)) ∧ Gone a (.list ds) σ₁ σ₂ ∧ Q (.inst C k (.lst ds)) σ₂) : WE c e env σ Q := fun X s S =>
  h.then S fun v s₁ d τ₁ ⟨C, k, a, ds, σ₂, hd, H, hq⟩ r S₁ x₁ => by
    subst hd
    obtain ⟨_, _, _, _, _, _, rfl, e1, e2, n1, n2, rv⟩ := DV.nstX r
    cases rv
    have g := H.grow (s := s₁) (X := X)
    exact ⟨_, σ₂, hq, .inst e1 e2 (g.bad _ _ e1 n1) (g.bad _ _ e2 n2) (H.lst S₁), H.st S₁, x₁.trans H.step⟩

theorem spec_law_table (G : Gd c) (hroom : c.A.depth < 500) {d : Int} {ρ : List (Int × Int)} {T : List Nat} {S : List (Nat × Nat × Nat)} {Q : D → Sig → Prop} (hρ : ρ.length = 5) (hT : T.Nodup) (hT32 : ∀ m ∈ T, m < 32) (hTl : T.length ≤ 100)
    (hS : ∀ s ∈ S, s.1 ∈ T ∧ s.2.1 < 5 ∧ s.2.2 < 5) (hSl : S.length ≤ 500) (hre : ∀ m ∈ T, reOk true (txt m) = true ∧ reOk false (tx (firmL (lessOf d ρ) S m)) = true)
    (hQ : Q (hdD (.lst (T.map (tabR (lessOf d ρ) S)))) σ) : WL c c.DV (fun vs => call (.ref 276) vs) [walkD T S, judgeD d, .lst (ρ.map rowD)] σ Q := by
  have ho : c.B.get? 276 = some (fnObj _ _ _ _ _ _ _ _ _) := G.K 276 _ rfl
  have z := sizeLine_eq
  (with_reducible refine WC.call ?_)
  (with_reducible refine call_FC (ps := ["walk", "judge", "rows"]) (ns := ["walk", "judge", "rows", "out", "into", "table"]) ho (by unfold recursionLimit; omega) G.nolimit (codeOf G (by kernel_rfl)) [some (walkD T S), some (judgeD d), some (.lst (ρ.map rowD)), none, none, none] (fun L => (L + 2, .cell none) :: (L + 1, .cell none) :: σ) (by kernel_rfl) (WB.pure ?_) (by kernel_rfl) (by intro L; kernel_rfl) 3 fun L => inF G fun c₁ G₁ hd => ?_)
  · intro vals hl
    match vals, hl with
    | [a, b, e], _ => with_unfolding_all rfl
  (with_reducible refine X_cons (S_Assign (by with_unfolding_all exact rfl) ?_))
  (with_reducible refine E_DictN ["tree"] [] ⟨by with_unfolding_all exact rfl, by decide, by with_unfolding_all exact rfl, by decide, by decide⟩ (by intro _; with_unfolding_all exact rfl) ?_)
  repeat kbo_bools
  (with_reducible refine sub_t' (k := 0) (by intro _ _; with_unfolding_all rfl) (by decide) (by decide) (by with_unfolding_all exact rfl) ?_)
  refine ⟨_, _, fun d => match d with | .str x => (x, .str "") | d => ("", d), by rw [List.length_map, z]; omega, src_seq G₁.hh .lst, fun _ => .lst, ?_, ?_⟩
  · intro C d hd' vals hv
    obtain ⟨m, hm, rfl⟩ := List.mem_map.mp hd'
    match vals, hv with
    | [o1], _ =>
      repeat kbo_bools
      (with_reducible refine ⟨[some (.str (txt m))], rfl, rfl, ?_⟩)
      repeat kbo_bools
      (with_reducible refine ⟨rfl, rfl, ?_⟩)
      repeat kbo_bools
      exact ⟨rfl, rfl⟩
  have e0 : gather (fun d => match d with | .str x => (x, .str "") | d => ("", d)) (T.map fun m => D.str (txt m)) = lzD (lessOf d ρ) T [] := by
    unfold gather
    rw [foldl_putK]
    · rw [List.nil_append, List.map_map]; rfl
    · rw [List.map_nil, List.nil_append, List.map_map]
      exact keys_nodup hT hT32
  rw [e0]
  intro a
  repeat kbo_bools
  (with_reducible refine W0.mono (Q := fun fl σ₂ => fl = .next ∧ ∃ o1 o2 o3, σ₂ = (a, .dict (lzD (lessOf d ρ) T S)) :: (L, .ns ["walk", "judge", "rows", "out", "into", "table"] [some (walkD T S), some (judgeD d), some (.lst (ρ.map rowD)), o1, o2, none]) :: (L + 2, .cell (some (.val (.ref a)))) :: (L + 1, .cell o3) :: σ) ?_ ?_)
  · (with_reducible refine S_For (by intro _; with_unfolding_all exact rfl) ?_)
    repeat kbo_bools
    (with_reducible refine sub_t' (k := 1) (by intro _ _; with_unfolding_all rfl) (by decide) (by decide) (by with_unfolding_all exact rfl) ?_)
    (with_reducible refine ⟨_, _, src_seq G₁.hh .lst, Loop.rest (fun rest σ' => ∃ done todo o1 o2 o3, S = done ++ todo ∧ rest = todo.map stepC ∧ σ' = (a, .dict (lzD (lessOf d ρ) T done)) :: (L, .ns ["walk", "judge", "rows", "out", "into", "table"] [some (walkD T S), some (judgeD d), some (.lst (ρ.map rowD)), o1, o2, none]) :: (L + 2, .cell (some (.val (.ref a)))) :: (L + 1, .cell o3) :: σ) ?_ ?_ _ _ ⟨[], S, _, _, _, rfl, rfl, rfl⟩⟩)
    · rintro dd rest σ' ⟨done, todo, o1, o2, o3, hl, hr, rfl⟩
      cases todo with
      | nil => cases hr
      | cons st todo =>
        injection hr with h1 h2
        subst h1 h2
        obtain ⟨hm, hi, hj⟩ := hS st (by rw [hl]; simp)
        have hdl : done.length ≤ 500 := by rw [hl, List.length_append] at hSl; omega
        have hlk : (lzD (lessOf d ρ) T done).lookup (txt st.1) = some (.str (tx (lzOf (lessOf d ρ) done st.1))) := look_txt hT32 (hT32 _ hm) hm
        have hz : (tx (lzOf (lessOf d ρ) done st.1)).length ≤ 500 := by rw [tx_len]; exact Nat.le_trans (lzOf_len ..) hdl
        have hup := putK_lz (less := lessOf d ρ) (S := done) hT32 hm
        have l1 : (upS st.2.1).length = 1 := rfl
        have l2 : (loS st.2.2).length = 1 := rfl
        have hzd : (lzD (lessOf d ρ) T done).length ≤ sizeLine := by rw [List.length_map, z]; omega
        (with_reducible refine ⟨.lst, ?_⟩)
        (with_reducible refine A_Tuple G₁.hh (by with_unfolding_all exact rfl) (by with_unfolding_all exact rfl) ?_)
        repeat kbo_bools
        (with_reducible refine E_MethF G₁.K (by with_unfolding_all exact rfl) (by with_unfolding_all exact rfl) (by with_unfolding_all exact rfl) ?_)
        repeat kbo_bools
        (with_reducible refine ⟨_, gmf_compare G₁, keep59 _, ?_⟩)
        repeat kbo_bools
        (with_reducible refine E_Meth (by with_unfolding_all exact rfl) (by with_unfolding_all exact rfl) (by with_unfolding_all exact rfl) ?_)
        repeat kbo_bools
        (with_reducible refine ⟨_, gmS_find, ?_⟩)
        repeat kbo_bools
        (with_reducible refine find_sg ?_)
        rw [find_lo _ hj]
        (with_reducible refine sub_l (by intro _ _; with_unfolding_all rfl) .lst (by omega) (by omega) (d := rowD (ρ.getD st.2.2 (0, 0))) ?_ ?_)
        · rw [Int.toNat_natCast, List.getElem?_map, List.getElem?_eq_getElem (by omega)]
          simp [List.getD, hρ, hj]
        repeat kbo_bools
        (with_reducible refine E_Meth (by with_unfolding_all exact rfl) (by with_unfolding_all exact rfl) (by with_unfolding_all exact rfl) ?_)
        repeat kbo_bools
        (with_reducible refine ⟨_, gmS_find, ?_⟩)
        repeat kbo_bools
        (with_reducible refine find_sg ?_)
        rw [find_up _ hi]
        (with_reducible refine sub_l (by intro _ _; with_unfolding_all rfl) .lst (by omega) (by omega) (d := rowD (ρ.getD st.2.1 (0, 0))) ?_ ?_)
        · rw [Int.toNat_natCast, List.getElem?_map, List.getElem?_eq_getElem (by omega)]
          simp [List.getD, hρ, hi]
        repeat kbo_bools
        (with_reducible refine spec_compare G₁ (by omega) ?_)
        repeat kbo_bools
        (with_reducible refine if_d (fun hc => ?_) fun hc => ?_)
        · have e : lessOf d ρ st.2.2 st.2.1 = true := decide_eq_true hc
          rw [e, if_pos rfl] at hup
          repeat kbo_bools
          (with_reducible refine sub_d (by intro _ _; with_unfolding_all rfl) (.ref (by kd_mem)) hlk ?_)
          repeat kbo_bools
          (with_reducible refine W2.weak2 ?_)
          (with_reducible refine add_s (by rw [l1, z]; omega) ?_)
          repeat kbo_bools
          (with_reducible refine set_d (by kd_mem) hzd ?_)
          rw [show tx (lzOf (lessOf d ρ) done st.1) ++ upS st.2.1 = tx (lzOf (lessOf d ρ) done st.1 ++ [65 + st.2.1]) from tx_app .., hup]
          repeat kbo_bools
          exact ⟨done ++ [st], todo, _, _, _, by rw [hl]; simp, rfl, rfl⟩
        · have e : lessOf d ρ st.2.2 st.2.1 = false := decide_eq_false hc
          rw [e, if_neg Bool.false_ne_true] at hup
          repeat kbo_bools
          (with_reducible refine sub_d (by intro _ _; with_unfolding_all rfl) (.ref (by kd_mem)) hlk ?_)
          repeat kbo_bools
          (with_reducible refine W2.weak2 ?_)
          (with_reducible refine add_s (by rw [l2, z]; omega) ?_)
          repeat kbo_bools
          (with_reducible refine set_d (by kd_mem) hzd ?_)
          rw [show tx (lzOf (lessOf d ρ) done st.1) ++ loS st.2.2 = tx (lzOf (lessOf d ρ) done st.1 ++ [97 + st.2.2]) from tx_app .., hup]
          repeat kbo_bools
          exact ⟨done ++ [st], todo, _, _, _, by rw [hl]; simp, rfl, rfl⟩
    · rintro σ' ⟨done, todo, o1, o2, o3, hl, hr, rfl⟩
      cases todo with
      | cons st todo => cases hr
      | nil =>
        rw [List.append_nil] at hl
        subst hl
        exact ⟨.lst, rfl, _, _, _, rfl⟩
  rintro fl σ₂ ⟨rfl, o1, o2, o3, rfl⟩
  repeat kbo_bools
  (with_reducible refine E_CallC G₁.K (by with_unfolding_all exact rfl) (by with_unfolding_all exact rfl) (by with_unfolding_all exact rfl) ?_)
  repeat kbo_bools
  (with_reducible refine ⟨_, rfl, keep252 _, ?_⟩)
  repeat kbo_bools
  (with_reducible refine E_List_new ?_)
  repeat kbo_bools
  intro b
  repeat kbo_bools
  (with_reducible refine spec_Headers G₁ (by omega) .head ?_)
  repeat kbo_bools
  (with_reducible refine W0.mono (Q := fun fl σ₂ => fl = .next ∧ ∃ o3, σ₂ = (b, .list (T.map (tabR (lessOf d ρ) S))) :: (a, .dict (lzD (lessOf d ρ) T S)) :: (L, .ns ["walk", "judge", "rows", "out", "into", "table"] [some (walkD T S), some (judgeD d), some (.lst (ρ.map rowD)), o1, o2, some (hdD (.val (.ref b)))]) :: (L + 2, .cell (some (.val (.ref a)))) :: (L + 1, .cell o3) :: σ) ?_ ?_)
  · (with_reducible refine S_For (by intro _; with_unfolding_all exact rfl) ?_)
    repeat kbo_bools
    (with_reducible refine sub_t' (k := 0) (by intro _ _; with_unfolding_all rfl) (by decide) (by decide) (by with_unfolding_all exact rfl) ?_)
    (with_reducible refine ⟨_, _, src_seq G₁.hh .lst, Loop.rest (fun rest σ' => ∃ done todo o3, T = done ++ todo ∧ rest = (todo.map fun m => .str (txt m)) ∧ σ' = (b, .list (done.map (tabR (lessOf d ρ) S))) :: (a, .dict (lzD (lessOf d ρ) T S)) :: (L, .ns ["walk", "judge", "rows", "out", "into", "table"] [some (walkD T S), some (judgeD d), some (.lst (ρ.map rowD)), o1, o2, some (hdD (.val (.ref b)))]) :: (L + 2, .cell (some (.val (.ref a)))) :: (L + 1, .cell o3) :: σ) ?_ ?_ _ _ ⟨[], T, _, rfl, rfl, rfl⟩⟩)
    · rintro dd rest σ' ⟨done, todo, o3, hl, hr, rfl⟩
      cases todo with
      | nil => cases hr
      | cons m todo =>
        injection hr with h1 h2
        subst h1 h2
        have hm : m ∈ T := by rw [hl]; simp
        have hdl : done.length ≤ 100 := by rw [hl, List.length_append] at hTl; omega
        have hlk : (lzD (lessOf d ρ) T S).lookup (txt m) = some (.str (tx (lzOf (lessOf d ρ) S m))) := look_txt hT32 (hT32 _ hm) hm
        obtain ⟨r1, r2⟩ := hre m hm
        (with_reducible refine ⟨.lst, ?_⟩)
        repeat kbo_bools
        (with_reducible refine E_MethF G₁.K (by with_unfolding_all exact rfl) (by with_unfolding_all exact rfl) (by with_unfolding_all exact rfl) ?_)
        repeat kbo_bools
        (with_reducible refine ⟨_, gmf_add_header G₁, keep249 _, ?_⟩)
        repeat kbo_bools
        (with_reducible refine E_Meth (by with_unfolding_all exact rfl) (by with_unfolding_all exact rfl) (by with_unfolding_all exact rfl) ?_)
        repeat kbo_bools
        (with_reducible refine ⟨_, gmS_join, ?_⟩)
        (with_reducible refine I_cons (by with_unfolding_all exact rfl) ?_)
        (with_reducible refine E_FilterC ["sign"] [("tree", L + 1), ("loose", L + 2)] ⟨by with_unfolding_all exact rfl, by decide, by with_unfolding_all exact rfl, by decide, by decide⟩ (by intro _; with_unfolding_all exact rfl) ?_)
        repeat kbo_bools
        refine ⟨_, _, notIn (tx (lzOf (lessOf d ρ) S m)), id, ?_, src_str G₁.hh (sgns_ascii m), fun _ => trivial, ?_, ?_⟩
        · rw [z]; simp only [signs, List.length_map, Array.length_toList]; show 5 ≤ _; omega
        · intro C dd hd' vals hv
          obtain ⟨y, hy, rfl⟩ := List.mem_map.mp hd'
          match vals, hv with
          | [o], _ =>
            repeat kbo_bools
            (with_reducible refine ⟨[some (.sg ⟨#[y]⟩)], rfl, rfl, ?_⟩)
            repeat kbo_bools
            (with_reducible refine sub_d (by intro _ _; with_unfolding_all rfl) (.ref (by kd_mem)) hlk ?_)
            (with_reducible refine W2.weak1 ?_)
            repeat kbo_bools
            exact ⟨rfl, rfl, fun _ => by repeat kbo_bools; exact ⟨rfl, rfl⟩⟩
        · rw [firm_filter]
          repeat kbo_bools
          (with_reducible refine join_m .lst (strs_sg _) (joinOk_chars (Nat.le_trans (firmL_len ..) (by decide))) ?_)
          rw [join_chars]
          repeat kbo_bools
          (with_reducible refine spec_add_header G₁ (by omega) .head (by rw [List.length_map]; omega) r1 r2 (by rw [tx_len]; have := firmL_len (lessOf d ρ) S m; exact Nat.ble_eq.mpr (by omega)) ?_)
          (with_reducible refine ⟨rfl, ?_⟩)
          repeat kbo_bools
          exact ⟨done ++ [m], todo, some (.str (txt m)), by rw [hl]; simp, rfl, by rw [List.map_append]; rfl⟩
    · rintro σ' ⟨done, todo, o3, hl, hr, rfl⟩
      cases todo with
      | cons st todo => cases hr
      | nil =>
        rw [List.append_nil] at hl
        subst hl
        exact ⟨.lst, rfl, _, rfl⟩
  rintro fl σ₂ ⟨rfl, o3, rfl⟩
  (with_reducible refine X_cons (S_Return (E_gone (E_iceI ?_))))
  repeat kbo_bools
  (with_reducible refine ⟨_, _, _, _, _, rfl, .head, ?_⟩)
  (with_reducible refine ⟨_, _, _, .head, ?_⟩)
  exact ⟨_, _, .ret _, .more (.more (.more .done)), hQ⟩
end

/-! covers -/
noncomputable abbrev rowR (r : Nat × List Nat) : D := rowS (txt r.1, tx r.2)
noncomputable abbrev pcD (pc : Nat → Int) : D := .dct ((List.range 32).map fun i => (txt i, .int (pc i)))
theorem rows_lo {l : List (Nat × Int)} {k : Nat} (hk : k < 5) (h : ∀ p ∈ l, p.1 < 32) : l.map rowI ++ (l.map rowI).map (fun d => match d with | .tup [.str x, .int n] => .tup [.str (Txt.replace x (tx [65 + k]) (Txt.lower (tx [65 + k]))), .int (n + 1)] | d => d) = (goC l (65 + k)).map rowI := by
  unfold goC
  rw [if_pos (by omega), List.map_append, List.map_map, List.map_map]
  congr 1
  refine List.map_congr_left fun p hp => ?_
  show D.tup [.str (Txt.replace (txt p.1) (tx [65 + k]) (Txt.lower (tx [65 + k]))), .int (p.2 + 1)] = .tup [.str (txt (p.1 ||| 2 ^ (4 - (65 + k - 65)))), .int (p.2 + 1)]
  rw [rep_lo _ (h p hp) _ hk, show 65 + k - 65 = k by omega]
theorem rows_up {l : List (Nat × Int)} {k : Nat} (hk : k < 5) (h : ∀ p ∈ l, p.1 < 32) : l.map rowI ++ (l.map rowI).map (fun d => match d with | .tup [.str x, .int n] => .tup [.str (Txt.replace x (tx [97 + k]) (Txt.upper (tx [97 + k]))), .int n] | d => d) = (goC l (97 + k)).map rowI := by
  unfold goC
  rw [if_neg (by omega), List.map_append, List.map_map, List.map_map]
  congr 1
  refine List.map_congr_left fun p hp => ?_
  show D.tup [.str (Txt.replace (txt p.1) (tx [97 + k]) (Txt.upper (tx [97 + k]))), .int p.2] = .tup [.str (txt (p.1 &&& (31 - 2 ^ (4 - (97 + k - 97))))), .int p.2]
  rw [rep_up _ (h p hp) _ hk, show 97 + k - 97 = k by omega]
theorem pys_rows : ∀ l : List (Nat × Int), Pys (l.map rowI) (l.map rowP)
  | [] => .nil
  | p :: l => .cons (.tup (.cons (.str _) (.cons (.int _) .nil))) (pys_rows l)
theorem signs_tx (l : List Nat) : signs (tx l) = l.map fun n => .sg (tx [n]) := by
  unfold signs tx
  simp

section
variable {c : Cx} {σ τ : Sig} {f : Ob → Sig} {X : List Addr} {s s₁ : Shared} {env : Env}

theorem spec_law_covers (G : Gd c) (hroom : c.A.depth < 500) {R : List (Nat × List Nat)} {pc : Nat → Int} {Q : D → Sig → Prop} (hR : ∀ r ∈ R, r.1 < 32 ∧ r.2.length ≤ 5 ∧ ∀ n ∈ r.2, Sign n) (hRl : R.length ≤ 100)
    (hcov : (R.flatMap fun r => setsC r.1 r.2).Perm ((List.range 32).map fun i => (i, pc i))) (hQ : Q (.bool true) σ) : WL c c.DV (fun vs => call (.ref 281) vs) [hdD (.lst (R.map rowR)), pcD pc] σ Q := by
  have ho : c.B.get? 281 = some (fnObj _ _ _ _ _ _ _ _ _) := G.K 281 _ rfl
  have z := sizeLine_eq
  (with_reducible refine WC.call ?_)
  (with_reducible refine call_FC (ps := ["table", "pieces"]) (ns := ["table", "covered", "tree", "firm", "sets"]) ho (by unfold recursionLimit; omega) G.nolimit (codeOf G (by kernel_rfl)) [some (hdD (.lst (R.map rowR))), none, none, none, none] (fun L => (L + 2, .cell none) :: (L + 1, .cell (some (pcD pc))) :: σ) (by kernel_rfl) (WB.pure ?_) (by kernel_rfl) (by intro L; kernel_rfl) 3 fun L => inF G fun c₁ G₁ hd => ?_)
  · intro vals hl
    match vals, hl with
    | [a, b], _ => with_unfolding_all rfl
  have hcl : (R.flatMap fun r => setsC r.1 r.2).length = 32 := by rw [hcov.length_eq]; simp
  repeat kbo_bools
  (with_reducible refine E_List_new ?_)
  repeat kbo_bools
  intro a
  repeat kbo_bools
  (with_reducible refine W0.mono (Q := fun fl σ₂ => fl = .next ∧ ∃ o1 o2 o3 o4, σ₂ = (a, .list ((R.flatMap fun r => setsC r.1 r.2).map rowI)) :: (L, .ns ["table", "covered", "tree", "firm", "sets"] [some (hdD (.lst (R.map rowR))), some (.val (.ref a)), o1, o2, o3]) :: (L + 2, .cell o4) :: (L + 1, .cell (some (pcD pc))) :: σ) ?_ ?_)
  · (with_reducible refine S_For (by intro _; with_unfolding_all exact rfl) ?_)
    (with_reducible refine E_MethF0 G₁.K (by with_unfolding_all exact rfl) ?_)
    repeat kbo_bools
    (with_reducible refine ⟨_, gmf_items G₁, keep216 _, ?_⟩)
    (with_reducible refine spec_items G₁ (by omega) (by rw [List.length_map]; omega) ?_)
    (with_reducible refine ⟨_, _, src_seq G₁.hh .lst, Loop.rest (fun rest σ' => ∃ done todo o1 o2 o3 o4, R = done ++ todo ∧ rest = todo.map rowR ∧ σ' = (a, .list ((done.flatMap fun r => setsC r.1 r.2).map rowI)) :: (L, .ns ["table", "covered", "tree", "firm", "sets"] [some (hdD (.lst (R.map rowR))), some (.val (.ref a)), o1, o2, o3]) :: (L + 2, .cell o4) :: (L + 1, .cell (some (pcD pc))) :: σ) ?_ ?_ _ _ ⟨[], R, _, _, _, _, rfl, rfl, rfl⟩⟩)
    · rintro dd rest σ' ⟨done, todo, o1, o2, o3, o4, hl, hr, rfl⟩
      cases todo with
      | nil => cases hr
      | cons r todo =>
        injection hr with h1 h2
        subst h1 h2
        obtain ⟨hm, hfl, hsg⟩ := hR r (by rw [hl]; simp)
        have hdl : (done.flatMap fun r => setsC r.1 r.2).length ≤ 32 := by
          rw [hl, List.flatMap_append, List.length_append] at hcl; omega
        (with_reducible refine ⟨.lst, ?_⟩)
        (with_reducible refine A_Tuple G₁.hh (by with_unfolding_all exact rfl) (by with_unfolding_all exact rfl) ?_)
        repeat kbo_bools
        (with_reducible refine E_List ?_)
        repeat kbo_bools
        (with_reducible refine W0.mono (Q := fun fl σ₂ => fl = .next ∧ ∃ o4, σ₂ = (a, .list ((done.flatMap fun r => setsC r.1 r.2).map rowI)) :: (L, .ns ["table", "covered", "tree", "firm", "sets"] [some (hdD (.lst (R.map rowR))), some (.val (.ref a)), some (.str (txt r.1)), some (.str (tx r.2)), some (.lst ((setsC r.1 r.2).map rowI))]) :: (L + 2, .cell o4) :: (L + 1, .cell (some (pcD pc))) :: σ) ?_ ?_)
        · (with_reducible refine S_For (by intro _; with_unfolding_all exact rfl) ?_)
          repeat kbo_bools
          (with_reducible refine ⟨_, _, src_str G₁.hh ?_, Loop.rest (fun rest σ' => ∃ dn td o4, r.2 = dn ++ td ∧ rest = (td.map fun n => .sg (tx [n])) ∧ σ' = (a, .list ((done.flatMap fun r => setsC r.1 r.2).map rowI)) :: (L, .ns ["table", "covered", "tree", "firm", "sets"] [some (hdD (.lst (R.map rowR))), some (.val (.ref a)), some (.str (txt r.1)), some (.str (tx r.2)), some (.lst ((setsC r.1 dn).map rowI))]) :: (L + 2, .cell o4) :: (L + 1, .cell (some (pcD pc))) :: σ) ?_ ?_ _ _ ⟨[], r.2, o4, rfl, signs_tx _, rfl⟩⟩)
          · unfold tx
            rw [List.all_toArray, List.all_eq_true]
            exact fun n hn => decide_eq_true (hsg n hn).ascii
          · rintro dd rest σ' ⟨dn, td, o4, hl2, hr2, rfl⟩
            cases td with
            | nil => cases hr2
            | cons n td =>
              injection hr2 with h1 h2
              subst h1 h2
              have hsn : Sign n := hsg n (by rw [hl2]; simp)
              have h32 : ∀ p ∈ setsC r.1 dn, p.1 < 32 := by
                have : ∀ (fl : List Nat) (l : List (Nat × Int)), (∀ n ∈ fl, Sign n) → (∀ p ∈ l, p.1 < 32) → ∀ p ∈ fl.foldl goC l, p.1 < 32 := by
                  intro fl
                  induction fl with
                  | nil => exact fun l _ h => h
                  | cons x fl ih => exact fun l h1 h2 => ih _ (fun y hy => h1 y (.tail _ hy)) (goC_32 (h1 x (.head _)) h2)
                refine this dn _ (fun y hy => hsg y (by rw [hl2]; exact List.mem_append.mpr (.inl hy))) fun p hp => ?_
                rw [List.mem_singleton] at hp
                subst hp; exact hm
              have hlen : (setsC r.1 dn).length ≤ 32 := by
                unfold setsC
                rw [fold_goC_len]
                have : dn.length ≤ 5 := by rw [hl2, List.length_append] at hfl; omega
                have := Nat.pow_le_pow_right (n := 2) (by decide) this
                simp only [List.length_singleton]
                omega
              have hsn1 : setsC r.1 (dn ++ [n]) = goC (setsC r.1 dn) n := by unfold setsC; rw [List.foldl_append]; rfl
              (with_reducible refine ⟨trivial, ?_⟩)
              repeat kbo_bools
              (with_reducible refine W2.weak1 ?_)
              repeat kbo_bools
              obtain ⟨k, hk, rfl | rfl⟩ := hsn
              · rw [(in_up k hk).1]
                repeat kbo_bools
                (with_reducible refine E_MapC ["text", "many"] [("sign", L + 2)] ⟨by with_unfolding_all exact rfl, by decide, by with_unfolding_all exact rfl, by decide, by decide⟩ (by intro _; with_unfolding_all exact rfl) ?_)
                repeat kbo_bools
                refine ⟨_, _, fun d => match d with | .tup [.str x, .int n] => .tup [.str (Txt.replace x (tx [65 + k]) (Txt.lower (tx [65 + k]))), .int (n + 1)] | d => d, by rw [List.length_map, z]; omega, src_seq G₁.hh .lst, fun _ => .lst, ?_, ?_⟩
                · intro C dd hd' vals hv
                  obtain ⟨p, hp, rfl⟩ := List.mem_map.mp hd'
                  obtain ⟨q1, q2, q3⟩ := turn_lo k hk
                  match vals, hv with
                  | [u1, u2], _ =>
                    (with_reducible refine A_Tuple G₁.hh (by with_unfolding_all exact rfl) (by with_unfolding_all exact rfl) ?_)
                    repeat kbo_bools
                    (with_reducible refine ⟨[some (.str (txt p.1)), some (.int p.2)], rfl, rfl, ?_⟩)
                    repeat kbo_bools
                    (with_reducible refine E_Repl (nm := "lower") (turn := Txt.lower) repl_lower (by with_unfolding_all exact rfl) (by with_unfolding_all exact rfl) (by with_unfolding_all exact rfl) (by with_unfolding_all exact rfl) (by with_unfolding_all exact rfl) ?_)
                    repeat kbo_bools
                    (with_reducible refine ⟨_, rfl, ?_⟩)
                    repeat kbo_bools
                    (with_reducible refine ⟨_, rfl, ?_⟩)
                    repeat kbo_bools
                    (with_reducible refine ⟨rfl, q1, q2, by rw [q3, show (txt p.1).length = 5 from rfl]; decide, ?_⟩)
                    repeat kbo_bools
                    exact ⟨rfl, rfl⟩
                · (with_reducible refine add_l .lst .lst (by rw [List.length_map, List.length_map, List.length_map, z]; omega) ?_)
                  rw [rows_lo hk h32]
                  repeat kbo_bools
                  exact ⟨dn ++ [65 + k], td, _, by rw [hl2]; simp, rfl, by rw [hsn1]⟩
              · rw [(in_up k hk).2]
                repeat kbo_bools
                (with_reducible refine E_MapC ["text", "many"] [("sign", L + 2)] ⟨by with_unfolding_all exact rfl, by decide, by with_unfolding_all exact rfl, by decide, by decide⟩ (by intro _; with_unfolding_all exact rfl) ?_)
                repeat kbo_bools
                refine ⟨_, _, fun d => match d with | .tup [.str x, .int n] => .tup [.str (Txt.replace x (tx [97 + k]) (Txt.upper (tx [97 + k]))), .int n] | d => d, by rw [List.length_map, z]; omega, src_seq G₁.hh .lst, fun _ => .lst, ?_, ?_⟩
                · intro C dd hd' vals hv
                  obtain ⟨p, hp, rfl⟩ := List.mem_map.mp hd'
                  obtain ⟨q1, q2, q3⟩ := turn_up k hk
                  match vals, hv with
                  | [u1, u2], _ =>
                    (with_reducible refine A_Tuple G₁.hh (by with_unfolding_all exact rfl) (by with_unfolding_all exact rfl) ?_)
                    repeat kbo_bools
                    (with_reducible refine ⟨[some (.str (txt p.1)), some (.int p.2)], rfl, rfl, ?_⟩)
                    repeat kbo_bools
                    (with_reducible refine E_Repl (nm := "upper") (turn := Txt.upper) repl_upper (by with_unfolding_all exact rfl) (by with_unfolding_all exact rfl) (by with_unfolding_all exact rfl) (by with_unfolding_all exact rfl) (by with_unfolding_all exact rfl) ?_)
                    repeat kbo_bools
                    (with_reducible refine ⟨_, rfl, ?_⟩)
                    repeat kbo_bools
                    (with_reducible refine ⟨_, rfl, ?_⟩)
                    repeat kbo_bools
                    (with_reducible refine ⟨rfl, q1, q2, by rw [q3, show (txt p.1).length = 5 from rfl]; decide, ?_⟩)
                    repeat kbo_bools
                    exact ⟨rfl, rfl⟩
                · (with_reducible refine add_l .lst .lst (by rw [List.length_map, List.length_map, List.length_map, z]; omega) ?_)
                  rw [rows_up hk h32]
                  repeat kbo_bools
                  exact ⟨dn ++ [97 + k], td, _, by rw [hl2]; simp, rfl, by rw [hsn1]⟩
          · rintro σ' ⟨dn, td, o4, hl2, hr2, rfl⟩
            cases td with
            | cons n td => cases hr2
            | nil =>
              rw [List.append_nil] at hl2
              rw [hl2]
              exact ⟨trivial, rfl, _, rfl⟩
        · rintro fl σ₂ ⟨rfl, o4, rfl⟩
          repeat kbo_bools
          (with_reducible refine E_Meth (by with_unfolding_all exact rfl) (by with_unfolding_all exact rfl) (by with_unfolding_all exact rfl) ?_)
          repeat kbo_bools
          (with_reducible refine ⟨_, gm_extend (.ref (by kd_mem)), ?_⟩)
          repeat kbo_bools
          have hsl : (setsC r.1 r.2).length ≤ 32 := by
            rw [hl, List.flatMap_append, List.length_append, List.flatMap_cons, List.length_append] at hcl; omega
          (with_reducible refine extend_m .head .lst (by rw [List.length_map, List.length_map]; omega) ?_)
          (with_reducible refine ⟨rfl, ?_⟩)
          repeat kbo_bools
          exact ⟨done ++ [r], todo, some (.str (txt r.1)), some (.str (tx r.2)), some (.lst ((setsC r.1 r.2).map rowI)), o4, by rw [hl]; simp, rfl, by rw [List.flatMap_append, List.map_append, List.flatMap_singleton]⟩
    · rintro σ' ⟨done, todo, o1, o2, o3, o4, hl, hr, rfl⟩
      cases todo with
      | cons r todo => cases hr
      | nil =>
        rw [List.append_nil] at hl
        subst hl
        exact ⟨.lst, rfl, _, _, _, _, rfl⟩
  rintro fl σ₂ ⟨rfl, o1, o2, o3, o4, rfl⟩
  (with_reducible refine X_cons (S_Return (E_gone (E_Compare (by with_unfolding_all exact rfl) ?_))))
  (with_reducible refine E_CallB (by with_unfolding_all exact rfl) (by with_unfolding_all exact rfl) (by with_unfolding_all exact rfl) ?_)
  repeat kbo_bools
  (with_reducible refine ⟨_, rfl, ?_⟩)
  repeat kbo_bools
  have hnd : ((R.flatMap fun r => setsC r.1 r.2).map (·.1)).Nodup := by
    rw [(hcov.map (·.1)).nodup_iff, List.map_map]
    show ((List.range 32).map id).Nodup
    rw [List.map_id]
    exact List.nodup_range
  have h32 : ∀ p ∈ R.flatMap fun r => setsC r.1 r.2, p.1 < 32 := fun p hp => by
    obtain ⟨i, hi, rfl⟩ := List.mem_map.mp (hcov.mem_iff.mp hp)
    exact List.mem_range.mp hi
  (with_reducible refine sorted_m (.ref .head) h32 hnd (by omega) (by omega) fun out hp hs => ?_)
  have he : out = (List.range 32).map fun i => (i, pc i) := perm_eq (hp.trans hcov) hs (by
    rw [List.pairwise_map]
    exact List.pairwise_lt_range)
  subst he
  (with_reducible refine E_MapC ["text"] [("pieces", L + 1)] ⟨by with_unfolding_all exact rfl, by decide, by with_unfolding_all exact rfl, by decide, by decide⟩ (by intro _; with_unfolding_all exact rfl) ?_)
  repeat kbo_bools
  refine ⟨_, _, fun d => match d with | .str x => .tup [.str x, (((List.range 32).map fun i => (txt i, D.int (pc i))).lookup x).getD .none] | d => d, by rw [List.length_map, List.length_map, z]; decide, src_keys G₁.hh, fun _ => trivial, ?_, ?_⟩
  · intro C dd hd' vals hv
    rw [List.map_map] at hd'
    obtain ⟨i, hi, e⟩ := List.mem_map.mp hd'
    have e : D.str (txt i) = dd := e
    subst e
    have hi := List.mem_range.mp hi
    have hlk : ((List.range 32).map fun i => (txt i, D.int (pc i))).lookup (txt i) = some (.int (pc i)) := look_txt (fun x hx => List.mem_range.mp hx) hi (List.mem_range.mpr hi)
    match vals, hv with
    | [u1], _ =>
      repeat kbo_bools
      (with_reducible refine ⟨[some (.str (txt i))], rfl, rfl, ?_⟩)
      repeat kbo_bools
      (with_reducible refine sub_d (by intro _ _; with_unfolding_all rfl) .dct hlk ?_)
      repeat kbo_bools
      refine ⟨rfl, ?_⟩
      show _ = D.tup [.str (txt i), (((List.range 32).map fun i => (txt i, D.int (pc i))).lookup (txt i)).getD .none]
      rw [hlk]; rfl
  have e2 : ((((List.range 32).map fun i => (txt i, D.int (pc i))).map fun e => D.str e.1).map fun d => match d with | .str x => .tup [.str x, (((List.range 32).map fun i => (txt i, D.int (pc i))).lookup x).getD .none] | d => d) = ((List.range 32).map fun i => (i, pc i)).map rowI := by
    rw [List.map_map, List.map_map, List.map_map]
    refine List.map_congr_left fun i hi => ?_
    have hi := List.mem_range.mp hi
    have hlk : ((List.range 32).map fun i => (txt i, D.int (pc i))).lookup (txt i) = some (.int (pc i)) := look_txt (fun x hx => List.mem_range.mp hx) hi (List.mem_range.mpr hi)
    show D.tup [.str (txt i), (((List.range 32).map fun i => (txt i, D.int (pc i))).lookup (txt i)).getD .none] = D.tup [.str (txt i), .int (pc i)]
    rw [hlk]; rfl
  rw [e2]
  have hsh := shaped_rows (l := (List.range 32).map fun i => (i, pc i)) fun p hp => by
    obtain ⟨i, hi, rfl⟩ := List.mem_map.mp hp
    exact List.mem_range.mp hi
  (with_reducible refine eq_l (G₁.room (by omega)) .lst (pys_rows _) hsh .lst (pys_rows _) hsh ?_)
  rw [eqv_rows]
  (with_reducible refine ⟨_, _, _, .head, ?_⟩)
  exact ⟨_, _, .ret _, .more (.more (.more .done)), hQ⟩
end

/-! the tally -/
noncomputable def grOf (fl : List Nat) : Nat := (fl.filter fun n => Txt.contains "ABCDE" (tx [n])).length
noncomputable def keyS (g n : Nat) : Str := Txt.mul "x" (g : Int) ++ Txt.mul "y" ((n : Int) - (g : Int))
noncomputable def tallyOf (R : List (List Nat)) : List (Str × Int) := R.foldl (fun t fl => bump t (keyS (grOf fl) fl.length)) []
theorem mul_ok : ∀ g : Nat, g < 6 → MulOk "x" (g : Int) ∧ (Txt.mul "x" (g : Int)).length ≤ 5 := by unfold MulOk; decide +kernel
theorem mul_oky : ∀ g : Nat, g < 6 → MulOk "y" (g : Int) ∧ (Txt.mul "y" (g : Int)).length ≤ 5 := by unfold MulOk; decide +kernel
theorem mul_ok2 (n : Nat) (hn : n < 6) (g : Nat) (_ : g < 6) (hg : g ≤ n) : MulOk "y" ((n : Int) - (g : Int)) ∧ (Txt.mul "y" ((n : Int) - (g : Int))).length ≤ 5 := by
  rw [show (n : Int) - (g : Int) = ((n - g : Nat) : Int) by omega]
  exact mul_oky _ (by omega)
theorem low_txt : ∀ m < 32, Txt.lower (txt m) = "abcde" := by decide +kernel
theorem low_abc : Txt.lower "abcde" = "abcde" := by decide +kernel
theorem re_abc : reOk true "abcde" = true := by decide +kernel
theorem len_abc : Builtin.Str.tooLong (Str.ofString "abcde").length = false := by decide +kernel
noncomputable def upIn : D → Bool
  | .sg x => Txt.contains "ABCDE" x
  | _ => false
theorem bump_keys {tl : List (Str × Int)} {k : Str} (h : (tl.map (·.1)).Nodup) : ((bump tl k).map (·.1)).Nodup ∧ (bump tl k).length ≤ tl.length + 1 := by
  unfold bump
  cases hk : tl.lookup k with
  | some n =>
    dsimp only
    refine ⟨?_, by rw [List.length_map]; omega⟩
    have e : (tl.map fun p => if p.1 = k then (p.1, n + 1) else p).map (·.1) = tl.map (·.1) := by
      rw [List.map_map]
      refine List.map_congr_left fun p _ => ?_
      simp only [Function.comp]
      split <;> rfl
    rw [e]; exact h
  | none =>
    dsimp only
    refine ⟨?_, by simp⟩
    rw [List.map_append, List.nodup_append]
    refine ⟨h, by simp, fun x hx y hy e => ?_⟩
    simp at hy
    subst hy e
    exact lookup_notin hk hx

section
variable {c : Cx} {σ τ : Sig} {f : Ob → Sig} {X : List Addr} {s s₁ : Shared} {env : Env}

theorem spec_law_tally (G : Gd c) (hroom : c.A.depth < 500) {R : List (Nat × List Nat)} {Q : D → Sig → Prop} (hR : ∀ r ∈ R, r.1 < 32 ∧ r.2.length ≤ 5 ∧ ∀ n ∈ r.2, Sign n) (hRl : R.length ≤ 100)
    (hQ : Q (.dct (di (tallyOf (R.map (·.2))))) σ) : WL c c.DV (fun vs => call (.ref 286) vs) [hdD (.lst (R.map fun r => rowS (txt r.1, tx r.2)))] σ Q := by
  have ho : c.B.get? 286 = some (fnObj _ _ _ _ _ _ _ _ _) := G.K 286 _ rfl
  have z := sizeLine_eq
  (with_reducible refine WC.call ?_)
  (with_reducible refine call_F0 (ps := ["table"]) (ns := ["table", "tally", "firm", "great"]) ho (by unfold recursionLimit; omega) G.nolimit (codeOf G (by kernel_rfl)) [some (hdD (.lst (R.map fun r => rowS (txt r.1, tx r.2)))), none, none, none] (by kernel_rfl) (WB.pure ?_) (by kernel_rfl) (by kernel_rfl) fun L => inF G fun c₁ G₁ hd => ?_)
  · intro vals hl
    match vals, hl with
    | [a], _ => with_unfolding_all rfl
  (with_reducible refine X_cons (S_Assign (by with_unfolding_all exact rfl) (E_iceD (E_Dict_empty fun a => ?_))))
  (with_reducible refine ⟨_, _, _, rfl, .head, ?_⟩)
  repeat kbo_bools
  (with_reducible refine W0.mono (Q := fun fl σ₂ => fl = .next ∧ ∃ o1 o2, σ₂ = (L, .ns ["table", "tally", "firm", "great"] [some (hdD (.lst (R.map fun r => rowS (txt r.1, tx r.2)))), some (.dct (di (tallyOf (R.map (·.2))))), o1, o2]) :: σ) ?_ ?_)
  · (with_reducible refine S_For (by intro _; with_unfolding_all exact rfl) ?_)
    (with_reducible refine E_MethF G₁.K (by with_unfolding_all exact rfl) (by with_unfolding_all exact rfl) (by with_unfolding_all exact rfl) ?_)
    repeat kbo_bools
    (with_reducible refine ⟨_, gmf_get_all G₁, keep191 _, ?_⟩)
    repeat kbo_bools
    have e0 : (R.map fun r => rowS (txt r.1, tx r.2)) = (R.map fun r => (txt r.1, tx r.2)).map rowS := by rw [List.map_map]; rfl
    have e1 : ((R.map fun r => (txt r.1, tx r.2)).map fun p => D.str p.2) = R.map fun r => .str (tx r.2) := by rw [List.map_map]; rfl
    rw [e0]
    (with_reducible refine spec_get_all G₁ (by omega) (by rw [List.length_map]; omega) low_abc len_abc re_abc (fun p hp => ?_) ?_)
    · obtain ⟨r, hr, rfl⟩ := List.mem_map.mp hp
      exact low_txt _ (hR r hr).1
    rw [← e0, e1]
    (with_reducible refine ⟨_, _, src_seq G₁.hh .lst, Loop.rest (fun rest σ' => ∃ done todo o1 o2, R = done ++ todo ∧ (((tallyOf (done.map (·.2))).map (·.1)).Nodup ∧ (tallyOf (done.map (·.2))).length ≤ done.length) ∧ rest = (todo.map fun r => .str (tx r.2)) ∧ σ' = (L, .ns ["table", "tally", "firm", "great"] [some (hdD (.lst (R.map fun r => rowS (txt r.1, tx r.2)))), some (.dct (di (tallyOf (done.map (·.2))))), o1, o2]) :: σ) ?_ ?_ _ _ ⟨[], R, _, _, rfl, ⟨by with_unfolding_all exact List.nodup_nil, by with_unfolding_all exact Nat.le_refl _⟩, rfl, rfl⟩⟩)
    · rintro dd rest σ' ⟨done, todo, o1, o2, hl, ⟨hn, htl⟩, hr, rfl⟩
      cases todo with
      | nil => cases hr
      | cons r todo =>
        injection hr with h1 h2
        subst h1 h2
        obtain ⟨hm, hfl, hsg⟩ := hR r (by rw [hl]; simp)
        have hdl : done.length ≤ 100 := by rw [hl, List.length_append] at hRl; omega
        have hg : grOf r.2 ≤ r.2.length := List.length_filter_le ..
        (with_reducible refine ⟨.lst, ?_⟩)
        repeat kbo_bools
        (with_reducible refine E_CallB (by with_unfolding_all exact rfl) (by with_unfolding_all exact rfl) (by with_unfolding_all exact rfl) ?_)
        repeat kbo_bools
        (with_reducible refine ⟨_, rfl, ?_⟩)
        (with_reducible refine I_cons (by with_unfolding_all exact rfl) ?_)
        (with_reducible refine E_FilterC ["sign"] [] ⟨by with_unfolding_all exact rfl, by decide, by with_unfolding_all exact rfl, by decide, by decide⟩ (by intro _; with_unfolding_all exact rfl) ?_)
        repeat kbo_bools
        refine ⟨_, _, upIn, id, ?_, src_str G₁.hh ?_, fun _ => trivial, ?_, ?_⟩
        · rw [z]; simp only [signs, List.length_map, Array.length_toList]; show r.2.toArray.size ≤ _; rw [List.size_toArray]; omega
        · unfold tx
          rw [List.all_toArray, List.all_eq_true]
          exact fun n hn => decide_eq_true (hsg n hn).ascii
        · intro C dd hd' vals hv
          obtain ⟨y, hy, rfl⟩ := List.mem_map.mp hd'
          match vals, hv with
          | [o], _ =>
            repeat kbo_bools
            (with_reducible refine ⟨[some (.sg ⟨#[y]⟩)], rfl, rfl, ?_⟩)
            repeat kbo_bools
            (with_reducible refine W2.weak1 ?_)
            repeat kbo_bools
            exact ⟨rfl, rfl, fun _ => by repeat kbo_bools; exact ⟨rfl, rfl⟩⟩
        · have eg : (((signs (tx r.2)).filter upIn).map id).length = grOf r.2 := by
            have e : signs (tx r.2) = r.2.map fun n => .sg (tx [n]) := by unfold signs tx; simp
            rw [List.length_map, e, List.filter_map, List.length_map]
            rfl
          repeat kbo_bools
          (with_reducible refine len_l .lst (by rw [eg]; omega) ?_)
          rw [eg]
          repeat kbo_bools
          (with_reducible refine E_CallF (by with_unfolding_all exact rfl) (by with_unfolding_all exact rfl) ?_)
          repeat kbo_bools
          refine ⟨_, _, _, rfl, G₁.K 73 _ rfl, rfl, ?_⟩
          repeat kbo_bools
          (with_reducible refine E_Dict1 (by with_unfolding_all exact rfl) fun b => ?_)
          repeat kbo_bools
          obtain ⟨mx, lx⟩ := mul_ok (grOf r.2) (by omega)
          obtain ⟨my, ly⟩ := mul_ok2 r.2.length (by omega) (grOf r.2) (by omega) hg
          (with_reducible refine mul_s mx ?_)
          repeat kbo_bools
          (with_reducible refine E_CallB (by with_unfolding_all exact rfl) (by with_unfolding_all exact rfl) (by with_unfolding_all exact rfl) ?_)
          repeat kbo_bools
          (with_reducible refine ⟨_, rfl, ?_⟩)
          repeat kbo_bools
          (with_reducible refine len_s (by rw [tx_len]; omega) ?_)
          rw [tx_len]
          repeat kbo_bools
          (with_reducible refine mul_s my ?_)
          (with_reducible refine add_s (by rw [z]; omega) ?_)
          (with_reducible refine ⟨_, rfl, ?_⟩)
          repeat kbo_bools
          (with_reducible refine ⟨_, rfl, ?_⟩)
          repeat kbo_bools
          (with_reducible refine spec_add_callers G₁ (by omega) hn (by omega) ?_)
          repeat kbo_bools
          have et : tallyOf ((done ++ [r]).map (·.2)) = bump (tallyOf (done.map (·.2))) (keyS (grOf r.2) r.2.length) := by
            unfold tallyOf
            rw [List.map_append, List.foldl_append]; rfl
          have hb := bump_keys (k := keyS (grOf r.2) r.2.length) hn
          exact ⟨done ++ [r], todo, some (.str (tx r.2)), some (.int (grOf r.2)), by rw [hl]; simp, by rw [et]; exact ⟨hb.1, by rw [List.length_append, List.length_singleton]; omega⟩, rfl, by rw [et]; rfl⟩
    · rintro σ' ⟨done, todo, o1, o2, hl, ⟨hn, htl⟩, hr, rfl⟩
      cases todo with
      | cons r todo => cases hr
      | nil =>
        rw [List.append_nil] at hl
        subst hl
        exact ⟨.lst, rfl, _, _, rfl⟩
  rintro fl σ₂ ⟨rfl, o1, o2, rfl⟩
  repeat kbo_bools
  exact ⟨_, _, .ret _, .more .done, hQ⟩
end

/-! the law -/
noncomputable abbrev rowsOf (n0 n1 n2 n3 n4 : Int) : List (Int × Int) := [((n0.fdiv 16).fmod 3, 0), ((n1.fdiv 16).fmod 3, 1), ((n2.fdiv 16).fmod 3, 2), ((n3.fdiv 16).fmod 3, 3), ((n4.fdiv 16).fmod 3, 4)]
noncomputable abbrev firmsOf (d : Int) (ρ : List (Int × Int)) (T : List Nat) (S : List (Nat × Nat × Nat)) : List (List Nat) := T.map (firmL (lessOf d ρ) S)
/-- what the plain law has to show of five numbers -/
structure Lawful (n0 n1 n2 n3 n4 : Int) (pc : Nat → Int) (T : List Nat) (S : List (Nat × Nat × Nat)) : Prop where
  pieces : piecesOf (roads n0 n1 n2 n3 n4) = (List.range 32).map fun i => (txt i, pc i)
  due : ((List.range 32).filter fun i => pc i == 1 && ((grOf (sgns i) : Nat) : Int) == 3) = T
  walk : ∃ K w, walkN ((List.range 32).map fun i => (txt i, pc i)) K { heap := ["ABCde"], met := ["ABCde"], trees := [], steps := [] } = some w ∧ w.trees = T.map txt ∧ w.steps = S.map fun s => (txt s.1, upS s.2.1, loS s.2.2)
  steps : (∀ s ∈ S, s.1 ∈ T ∧ s.2.1 < 5 ∧ s.2.2 < 5) ∧ S.length ≤ 500
  re : ∀ less : Nat → Nat → Bool, ∀ m ∈ T, reOk true (txt m) = true ∧ reOk false (tx (firmL less S m)) = true
  cov : ∀ d : Int, d = 1 ∨ d = -1 → (T.flatMap fun m => setsC m (firmL (lessOf d (rowsOf n0 n1 n2 n3 n4)) S m)).Perm ((List.range 32).map fun i => (i, pc i))
  tal : ((tallyOf (firmsOf (-1) (rowsOf n0 n1 n2 n3 n4) T S)).length == (tallyOf (firmsOf 1 (rowsOf n0 n1 n2 n3 n4) T S)).length && (tallyOf (firmsOf (-1) (rowsOf n0 n1 n2 n3 n4) T S)).all fun p => (tallyOf (firmsOf 1 (rowsOf n0 n1 n2 n3 n4) T S)).lookup p.1 == some p.2) = true
  tot : total (tallyOf (firmsOf 1 (rowsOf n0 n1 n2 n3 n4) T S)) = T.length

theorem sgn_sign (m : Nat) : ∀ n ∈ sgns m, Sign n := by
  intro n hn
  unfold sgns sgn at hn
  simp only [List.mem_cons, List.not_mem_nil, or_false] at hn
  rcases hn with rfl | rfl | rfl | rfl | rfl
  · exact ⟨0, by decide, by split <;> simp⟩
  · exact ⟨1, by decide, by split <;> simp⟩
  · exact ⟨2, by decide, by split <;> simp⟩
  · exact ⟨3, by decide, by split <;> simp⟩
  · exact ⟨4, by decide, by split <;> simp⟩
theorem firm_sign (less : Nat → Nat → Bool) (S : List (Nat × Nat × Nat)) (m : Nat) : ∀ n ∈ firmL less S m, Sign n := fun n hn => sgn_sign m n (List.mem_filter.mp hn).1
noncomputable def five (ns : List Int) : List Int := ns.take 5 ++ ([16, 1, 32, 8, 30] : List Int).drop (ns.take 5).length
theorem five_len (ns : List Int) : (five ns).length = 5 := by
  unfold five
  rw [List.length_append, List.length_drop]
  have := List.length_take_le 5 ns
  simp only [List.length_cons, List.length_nil]
  omega
theorem five_is (ns : List Int) : ∃ n0 n1 n2 n3 n4, five ns = [n0, n1, n2, n3, n4] := by
  have h := five_len ns
  match five ns, h with
  | [a, b, c, d, e], _ => exact ⟨a, b, c, d, e, rfl⟩
theorem pick_five (ns : List Int) : pickD (ns.map .int) none (some 5) = (ns.take 5).map .int := by
  have e1 : ∀ n, kms_lo none n = 0 := fun _ => rfl
  have e2 : ∀ n, kms_hi (some 5) n = min 5 n := fun n => by show (if (5 : Int) < 0 then n - (-(5 : Int)).toNat else min (5 : Int).toNat n) = _; rw [if_neg (by decide)]; rfl
  unfold pickD
  rw [e1, e2, List.drop_zero, Nat.sub_zero, List.length_map, ← List.map_take]
  congr 1
  by_cases h : ns.length ≤ 5
  · rw [Nat.min_eq_right h, List.take_of_length_le (Nat.le_refl _), List.take_of_length_le h]
  · rw [Nat.min_eq_left (by omega)]
theorem pick_rest (k : Nat) (hk : k ≤ 5) : pickD ([16, 1, 32, 8, 30].map D.int) (some (k : Int)) none = (([16, 1, 32, 8, 30] : List Int).drop k).map .int := by
  match k, hk with
  | 0, _ => rfl
  | 1, _ => rfl
  | 2, _ => rfl
  | 3, _ => rfl
  | 4, _ => rfl
  | 5, _ => rfl
theorem txt_all : ∀ m < 32, (((txt m).cps.all fun n => decide (n < 128)) && Nat.ble (txt m).length 100 && walkN.strOkB (txt m)) = true := by decide +kernel
theorem eqv_sts : ∀ l : List Str, PyData.eqvAll (l.map .str) (l.map .str) = true
  | [] => rfl
  | x :: l => by
    simp only [List.map_cons, PyData.eqvAll, PyData.eqv, eqv_sts l, beq_self_eq_true, Bool.and_self]
theorem roads_ok (n0 n1 n2 n3 n4 : Int) : ∀ r ∈ roads n0 n1 n2 n3 n4, Road r := by
  have b : ∀ (n m : Int), 0 < m → 0 ≤ n.fmod m ∧ n.fmod m < m := fun n m h => ⟨Int.fmod_nonneg_of_pos n h, Int.fmod_lt_of_pos n h⟩
  intro r hr
  unfold roads at hr
  simp only [List.mem_cons, List.not_mem_nil, or_false] at hr
  rcases hr with rfl | rfl | rfl | rfl | rfl
  · have := b n0 1 (by decide); exact ⟨by dsimp only; omega, by dsimp only; omega, this.1, by dsimp only; omega⟩
  · have := b n1 2 (by decide); exact ⟨by dsimp only; omega, by dsimp only; omega, this.1, by dsimp only; omega⟩
  · have := b n2 3 (by decide); exact ⟨by dsimp only; omega, by dsimp only; omega, this.1, by dsimp only; omega⟩
  · have h1 := b n3 4 (by decide); have h2 := b (n3.fdiv 4) 4 (by decide); exact ⟨h1.1, h1.2, h2.1, h2.2⟩
  · have h1 := b n4 4 (by decide); have h2 := b (n4.fdiv 4) 4 (by decide); exact ⟨h1.1, h1.2, h2.1, h2.2⟩

section
variable {c : Cx} {σ τ : Sig} {f : Ob → Sig} {X : List Addr} {s s₁ : Shared} {env : Env}

theorem inF' {body : List Stmt} {Q : Fl → Sig → Prop} (G : Gd c) (h : ∀ c₁ : Cx, Gd c₁ → c₁.A.depth = c.A.depth + 1 → c₁.B = c.B → WX c₁ body env σ Q) : WX (c.deeper env) body env σ Q := h _ (G.deeper _) rfl rfl
theorem W1.mono {α β : Type} {rep : Shared → List Addr → α → β → Prop} {t : Value → Sem α} {d : D} {Q Q' : β → Sig → Prop} (h : W1 c rep t d σ Q) (k : ∀ b τ, Q b τ → Q' b τ) : W1 c rep t d σ Q' := fun X s v S r =>
  Post.then (h X s v S r) fun v s₁ b τ q r S₁ x => ⟨b, τ, k b τ q, r, S₁, x⟩
theorem keep62 (P : Params) : keepIn (laid P) (.ref 62) = true := by kernel_rfl
theorem law_call (G : Gd c) (hroom : c.A.depth < 320) {l : Addr} {vs : List Value} {ns : List Int} (hL : c.B.IsList l vs.toArray) (hI : IntsAre vs ns) (hns : ns.length ≤ 1000) (F : ∀ n0 n1 n2 n3 n4 : Int, ∃ pc T S, Lawful n0 n1 n2 n3 n4 pc T S)
    (S : c.St [] [] { s with toks := s.toks + 1 }) :
    codeAny c.M c.A (.call (.ref 291) ⟨[.ref l], []⟩) (RetPost c [] [] { s with toks := s.toks + 1 } fun d _ => d = .bool true) s := by
  have ho : c.B.get? 291 = some (fnObj _ _ _ _ _ _ _ _ _) := G.K 291 _ rfl
  have z := sizeLine_eq
  (with_reducible refine call_bootC (p := "script") (ns := ["script", "rows", "due", "walk", "rising", "falling", "tally"]) (d := .val (.ref l)) ho (by unfold recursionLimit; omega) G.nolimit (codeOf G (by kernel_rfl)) [some (.val (.ref l)), none, none, none, none, none, none] (fun L => (L + 2, .cell none) :: (L + 1, .cell none) :: []) (by kernel_rfl) (by kernel_rfl) ?_ (by kernel_rfl) (by intro L; kernel_rfl) 3 (fun L => inF' G fun c₁ G₁ hd hB => ?_) S (.val _))
  · with_unfolding_all rfl
  have hL : c₁.B.IsList l vs.toArray := hB ▸ hL
  obtain ⟨n0, n1, n2, n3, n4, h5⟩ := five_is ns
  obtain ⟨pc, T, St, W⟩ := F n0 n1 n2 n3 n4
  have hT32 : ∀ m ∈ T, m < 32 := fun m hm => by rw [← W.due] at hm; exact List.mem_range.mp (List.mem_filter.mp hm).1
  have hTn : T.Nodup := by rw [← W.due]; exact List.nodup_range.filter _
  have hTl : T.length ≤ 32 := by rw [← W.due]; exact Nat.le_trans (List.length_filter_le ..) (by simp)
  -- numbers
  (with_reducible refine X_cons (S_Assign (by with_unfolding_all exact rfl) (E_BinOp ?_)))
  (with_reducible refine E_SliceB hL hI hns (by intro _ _; with_unfolding_all rfl) ?_)
  repeat kbo_bools
  (with_reducible refine ⟨rfl, ?_⟩)
  (with_reducible refine P_none ?_)
  (with_reducible refine P_some ?_)
  repeat kbo_bools
  refine ⟨_, _, .none, .int 5, ?_⟩
  rw [pick_five]
  (with_reducible refine E_SliceA (by intro _ _; with_unfolding_all rfl) ?_)
  (with_reducible refine E_List ?_)
  repeat kbo_bools
  (with_reducible refine P_some ?_)
  (with_reducible refine E_CallB (by with_unfolding_all exact rfl) (by with_unfolding_all exact rfl) (by with_unfolding_all exact rfl) ?_)
  repeat kbo_bools
  (with_reducible refine ⟨_, rfl, ?_⟩)
  (with_reducible refine I_cons (by with_unfolding_all exact rfl) ?_)
  (with_reducible refine E_SliceB hL hI hns (by intro _ _; with_unfolding_all rfl) ?_)
  repeat kbo_bools
  (with_reducible refine ⟨rfl, ?_⟩)
  (with_reducible refine P_none ?_)
  (with_reducible refine P_some ?_)
  repeat kbo_bools
  refine ⟨_, _, .none, .int 5, ?_⟩
  rw [pick_five]
  repeat kbo_bools
  have hk5 : (ns.take 5).length ≤ 5 := List.length_take_le ..
  (with_reducible refine len_l .lst (by rw [List.length_map]; omega) ?_)
  (with_reducible refine P_none ?_)
  refine ⟨_, _, _, .lst, by decide, .int _, .none, ?_⟩
  rw [List.length_map]
  have e0 : pickD [D.int 16, D.int 1, D.int 32, D.int 8, D.int 30] (some ((ns.take 5).length : Int)) none = (([16, 1, 32, 8, 30] : List Int).drop (ns.take 5).length).map .int := pick_rest _ hk5
  rw [e0]
  (with_reducible refine add_l .lst .lst (by rw [List.length_map, List.length_map, List.length_drop, z]; simp only [List.length_cons, List.length_nil]; omega) ?_)
  have e1 : (ns.take 5).map D.int ++ (([16, 1, 32, 8, 30] : List Int).drop (ns.take 5).length).map .int = nums [n0, n1, n2, n3, n4] := by
    rw [← List.map_append, ← h5]; rfl
  rw [e1]
  clear e0 e1
  repeat kbo_bools
  -- rows
  (with_reducible refine S_AssignMapC ["k"] [("numbers", L + 1)] ⟨by with_unfolding_all exact rfl, by decide, by with_unfolding_all exact rfl, by decide, by decide⟩ (by intro _; with_unfolding_all exact rfl) (by with_unfolding_all exact rfl) ?_)
  (with_reducible refine E_CallT (by with_unfolding_all exact rfl) (by with_unfolding_all exact rfl) (by with_unfolding_all exact rfl) ?_)
  repeat kbo_bools
  (with_reducible refine ⟨_, rfl, ?_⟩)
  repeat kbo_bools
  (with_reducible refine range_t' (n := 5) (by decide) ?_)
  refine ⟨_, _, fun d => match d with | .int k => .tup [.int (((([n0, n1, n2, n3, n4] : List Int).getD k.toNat 0).fdiv 16).fmod 3), .int k] | d => d, by simp [upTo]; omega, src_rng G₁.hh (by decide) (by decide), fun _ => trivial, ?_, ?_⟩
  · intro C d hd' vals hv
    obtain ⟨k, hk, rfl⟩ := List.mem_map.mp hd'
    have hk5 : k < 5 := List.mem_range.mp hk
    match vals, hv with
    | [o], _ =>
      repeat kbo_bools
      (with_reducible refine ⟨[some (.int k)], rfl, rfl, ?_⟩)
      repeat kbo_bools
      (with_reducible refine sub_l (by intro _ _; with_unfolding_all rfl) .lst (by omega) (by omega) (d := .int (([n0, n1, n2, n3, n4] : List Int).getD k 0)) ?_ ?_)
      · rw [Int.toNat_natCast]
        match k, hk5 with
        | 0, _ => rfl
        | 1, _ => rfl
        | 2, _ => rfl
        | 3, _ => rfl
        | 4, _ => rfl
      repeat kbo_bools
      (with_reducible refine fdiv_i (by decide) (PyProof.noPylong_small (by decide)) ?_)
      repeat kbo_bools
      (with_reducible refine mod_i (by decide) ?_)
      repeat kbo_bools
      exact ⟨rfl, rfl⟩
  have e2 : ((upTo 5).map fun d => match d with | .int k => D.tup [.int (((([n0, n1, n2, n3, n4] : List Int).getD k.toNat 0).fdiv 16).fmod 3), .int k] | d => d) = (rowsOf n0 n1 n2 n3 n4).map rowD := rfl
  rw [e2]
  clear e2
  repeat kbo_bools
  -- pieces
  (with_reducible refine E_CallF (by with_unfolding_all exact rfl) (by with_unfolding_all exact rfl) ?_)
  repeat kbo_bools
  refine ⟨_, _, _, rfl, G₁.K 266 _ rfl, rfl, ?_⟩
  repeat kbo_bools
  (with_reducible refine E_CallF (by with_unfolding_all exact rfl) (by with_unfolding_all exact rfl) ?_)
  repeat kbo_bools
  refine ⟨_, _, _, rfl, G₁.K 261 _ rfl, rfl, ?_⟩
  repeat kbo_bools
  (with_reducible refine spec_law_roads G₁ (by omega) ?_)
  repeat kbo_bools
  (with_reducible refine spec_law_pieces G₁ (by omega) (by with_unfolding_all exact rfl) (roads_ok n0 n1 n2 n3 n4) ?_)
  rw [W.pieces]
  have e3 : (((List.range 32).map fun i => (txt i, pc i)).map fun p => (p.1, D.int p.2)) = (List.range 32).map fun i => (txt i, D.int (pc i)) := by rw [List.map_map]; rfl
  rw [e3]
  repeat kbo_bools
  -- due
  (with_reducible refine S_AssignFilterC ["text"] [("pieces", L + 2)] ⟨by with_unfolding_all exact rfl, by decide, by with_unfolding_all exact rfl, by decide, by decide⟩ (by intro _; with_unfolding_all exact rfl) (by with_unfolding_all exact rfl) ?_)
  repeat kbo_bools
  have hlk2 : ∀ i, i < 32 → ((((List.range 32).map fun i => (txt i, pc i)).lookup (txt i)).getD 0) = pc i := fun i hi => by
    have hlk : ((List.range 32).map fun i => (txt i, D.int (pc i))).lookup (txt i) = some (.int (pc i)) := look_txt (fun x hx => List.mem_range.mp hx) hi (List.mem_range.mpr hi)
    have := di_lookup (k := txt i) (tl := (List.range 32).map fun i => (txt i, pc i))
    rw [show di ((List.range 32).map fun i => (txt i, pc i)) = (List.range 32).map fun i => (txt i, D.int (pc i)) from e3, hlk] at this
    cases q : ((List.range 32).map fun i => (txt i, pc i)).lookup (txt i) with
    | none => rw [q] at this; cases this
    | some n => rw [q] at this; cases this; rfl
  refine ⟨_, _, fun d => match d with | .str x => ((((List.range 32).map fun i => (txt i, pc i)).lookup x).getD 0 == 1) && (((x.cps.toList.filter fun n => Txt.contains "ABCDE" (tx [n])).length : Nat) : Int) == 3 | _ => false, id, by rw [List.length_map, List.length_map, z]; decide, src_keys G₁.hh, fun _ => trivial, ?_, ?_⟩
  · intro C dd hd' vals hv
    rw [List.map_map] at hd'
    obtain ⟨i, hi, e⟩ := List.mem_map.mp hd'
    have e : D.str (txt i) = dd := e
    subst e
    have hi := List.mem_range.mp hi
    have hlk : ((List.range 32).map fun i => (txt i, D.int (pc i))).lookup (txt i) = some (.int (pc i)) := look_txt (fun x hx => List.mem_range.mp hx) hi (List.mem_range.mpr hi)
    match vals, hv with
    | [u1], _ =>
      repeat kbo_bools
      (with_reducible refine ⟨[some (.str (txt i))], rfl, rfl, ?_⟩)
      repeat kbo_bools
      (with_reducible refine sub_d (by intro _ _; with_unfolding_all rfl) .dct hlk ?_)
      repeat kbo_bools
      cases h1 : (pc i == 1) with
      | false =>
        (with_reducible refine if_f ?_)
        refine ⟨rfl, ?_, ?_⟩
        · show false = (_ && _); rw [hlk2 i hi, h1]; rfl
        · intro hp
          have hp : ((((List.range 32).map fun i => (txt i, pc i)).lookup (txt i)).getD 0 == 1 && _) = true := hp
          rw [hlk2 i hi, h1] at hp; cases hp
      | true =>
        (with_reducible refine if_t ?_)
        repeat kbo_bools
        (with_reducible refine E_CallB (by with_unfolding_all exact rfl) (by with_unfolding_all exact rfl) (by with_unfolding_all exact rfl) ?_)
        repeat kbo_bools
        (with_reducible refine ⟨_, rfl, ?_⟩)
        (with_reducible refine I_cons (by with_unfolding_all exact rfl) ?_)
        (with_reducible refine E_FilterC ["sign"] [] ⟨by with_unfolding_all exact rfl, by decide, by with_unfolding_all exact rfl, by decide, by decide⟩ (by intro _; with_unfolding_all exact rfl) ?_)
        repeat kbo_bools
        refine ⟨_, _, upIn, id, ?_, src_str G₁.hh (sgns_ascii i), fun _ => trivial, ?_, ?_⟩
        · rw [z]; simp only [signs, List.length_map, Array.length_toList]; show 5 ≤ _; omega
        · intro C' dd hd' vals hv
          obtain ⟨y, hy, rfl⟩ := List.mem_map.mp hd'
          match vals, hv with
          | [o], _ =>
            repeat kbo_bools
            (with_reducible refine ⟨[some (.sg ⟨#[y]⟩)], rfl, rfl, ?_⟩)
            repeat kbo_bools
            (with_reducible refine W2.weak1 ?_)
            repeat kbo_bools
            exact ⟨rfl, rfl, fun _ => by repeat kbo_bools; exact ⟨rfl, rfl⟩⟩
        · have eg : (((signs (txt i)).filter upIn).map id).length = grOf (sgns i) := by
            have e : signs (txt i) = (sgns i).map fun n => .sg (tx [n]) := signs_tx _
            rw [List.length_map, e, List.filter_map, List.length_map]
            rfl
          have hg5 : grOf (sgns i) ≤ 5 := List.length_filter_le ..
          repeat kbo_bools
          (with_reducible refine len_l .lst (by rw [eg]; omega) ?_)
          rw [eg]
          repeat kbo_bools
          have hp3 : ((((List.range 32).map fun i => (txt i, pc i)).lookup (txt i)).getD 0 == 1 && (((txt i).cps.toList.filter fun n => Txt.contains "ABCDE" (tx [n])).length : Int) == 3) = (((grOf (sgns i) : Nat) : Int) == 3) := by
            rw [hlk2 i hi, h1, Bool.true_and]
            have : (txt i).cps.toList = sgns i := by unfold txt tx; simp
            rw [this]; rfl
          cases h2 : (((grOf (sgns i) : Nat) : Int) == 3) with
          | false =>
            (with_reducible refine if_f ?_)
            rw [h2] at hp3
            exact ⟨rfl, hp3.symm, fun hp => Bool.noConfusion (hp3.symm.trans hp)⟩
          | true =>
            (with_reducible refine if_t ?_)
            rw [h2] at hp3
            repeat kbo_bools
            refine ⟨rfl, hp3.symm, fun _ => ?_⟩
            repeat kbo_bools
            exact ⟨rfl, rfl⟩
  have e5 : (((((List.range 32).map fun i => (txt i, D.int (pc i))).map fun e => D.str e.1).filter fun d => match d with | .str x => ((((List.range 32).map fun i => (txt i, pc i)).lookup x).getD 0 == 1) && (((x.cps.toList.filter fun n => Txt.contains "ABCDE" (tx [n])).length : Nat) : Int) == 3 | _ => false).map id) = sts (T.map txt) := by
    rw [List.map_id, List.map_map, List.filter_map, ← W.due]
    unfold sts
    rw [List.map_map]
    have : ((List.range 32).filter fun i => pc i == 1 && ((grOf (sgns i) : Nat) : Int) == 3) = (List.range 32).filter ((fun d => match d with | .str x => ((((List.range 32).map fun i => (txt i, pc i)).lookup x).getD 0 == 1) && (((x.cps.toList.filter fun n => Txt.contains "ABCDE" (tx [n])).length : Nat) : Int) == 3 | _ => false) ∘ ((fun e => D.str e.1) ∘ fun i => (txt i, D.int (pc i)))) := by
      refine List.filter_congr fun i hi => ?_
      have hi := List.mem_range.mp hi
      show _ = (((((List.range 32).map fun i => (txt i, pc i)).lookup (txt i)).getD 0 == 1) && ((((txt i).cps.toList.filter fun n => Txt.contains "ABCDE" (tx [n])).length : Nat) : Int) == 3)
      rw [hlk2 i hi]
      have : (txt i).cps.toList = sgns i := by unfold txt tx; simp
      rw [this]; rfl
    rw [this]
    rfl
  rw [e5]
  clear e5 hlk2
  repeat kbo_bools
  -- walk
  obtain ⟨K, wk, hw, hw1, hw2⟩ := W.walk
  have sw : ∀ {σ : Sig} {Q : D → Sig → Prop}, Q (walkD T St) σ → WL c₁ c₁.DV (fun vs => call (.ref 271) vs) [.dct ((List.range 32).map fun i => (txt i, D.int (pc i)))] σ Q := fun h => by
    rw [← e3]
    refine spec_law_walk G₁ (by omega) hw ?_
    rw [hw1, hw2]
    have : D.tup [.lst (sts (T.map txt)), .lst ((St.map fun s => (txt s.1, upS s.2.1, loS s.2.2)).map stepD)] = walkD T St := by
      unfold sts
      rw [List.map_map, List.map_map]; rfl
    rw [this]
    exact h
  (with_reducible refine E_CallF (by with_unfolding_all exact rfl) (by with_unfolding_all exact rfl) ?_)
  repeat kbo_bools
  refine ⟨_, _, _, rfl, G₁.K 271 _ rfl, rfl, ?_⟩
  repeat kbo_bools
  (with_reducible refine sw ?_)
  repeat kbo_bools
  -- rising
  have st : ∀ {d : Int} {σ : Sig} {Q : D → Sig → Prop}, Q (hdD (.lst ((T.map fun m => (m, firmL (lessOf d (rowsOf n0 n1 n2 n3 n4)) St m)).map rowR))) σ → WL c₁ c₁.DV (fun vs => call (.ref 276) vs) [walkD T St, judgeD d, .lst ((rowsOf n0 n1 n2 n3 n4).map rowD)] σ Q := fun {d σ Q} h => by
    refine spec_law_table G₁ (by omega) rfl hTn hT32 (by omega) W.steps.1 W.steps.2 (fun m hm => W.re _ m hm) ?_
    rw [List.map_map] at h
    exact h
  (with_reducible refine E_CallF (by with_unfolding_all exact rfl) (by with_unfolding_all exact rfl) ?_)
  repeat kbo_bools
  refine ⟨_, _, _, rfl, G₁.K 276 _ rfl, rfl, ?_⟩
  repeat kbo_bools
  (with_reducible refine E_CallC G₁.K (by with_unfolding_all exact rfl) (by with_unfolding_all exact rfl) (by with_unfolding_all exact rfl) ?_)
  repeat kbo_bools
  (with_reducible refine ⟨_, rfl, keep62 _, ?_⟩)
  repeat kbo_bools
  (with_reducible refine E_List ?_)
  repeat kbo_bools
  (with_reducible refine spec_TupleComp G₁ (by omega) ?_)
  repeat kbo_bools
  (with_reducible refine st ?_)
  repeat kbo_bools
  -- falling
  (with_reducible refine E_CallF (by with_unfolding_all exact rfl) (by with_unfolding_all exact rfl) ?_)
  repeat kbo_bools
  refine ⟨_, _, _, rfl, G₁.K 276 _ rfl, rfl, ?_⟩
  repeat kbo_bools
  (with_reducible refine E_CallC G₁.K (by with_unfolding_all exact rfl) (by with_unfolding_all exact rfl) (by with_unfolding_all exact rfl) ?_)
  repeat kbo_bools
  (with_reducible refine ⟨_, rfl, keep62 _, ?_⟩)
  repeat kbo_bools
  (with_reducible refine E_List ?_)
  repeat kbo_bools
  (with_reducible refine spec_TupleComp G₁ (by omega) ?_)
  repeat kbo_bools
  (with_reducible refine st ?_)
  repeat kbo_bools
  -- tally
  have hR : ∀ d : Int, ∀ r ∈ (T.map fun m => (m, firmL (lessOf d (rowsOf n0 n1 n2 n3 n4)) St m)), r.1 < 32 ∧ r.2.length ≤ 5 ∧ ∀ n ∈ r.2, Sign n := fun d r hr => by
    obtain ⟨m, hm, rfl⟩ := List.mem_map.mp hr
    exact ⟨hT32 m hm, firmL_len .., firm_sign _ _ _⟩
  have hRl : ∀ d : Int, (T.map fun m => (m, firmL (lessOf d (rowsOf n0 n1 n2 n3 n4)) St m)).length ≤ 100 := fun d => by rw [List.length_map]; omega
  have sy : ∀ {d : Int} {σ : Sig} {Q : D → Sig → Prop}, Q (.dct (di (tallyOf (firmsOf d (rowsOf n0 n1 n2 n3 n4) T St)))) σ → WL c₁ c₁.DV (fun vs => call (.ref 286) vs) [hdD (.lst ((T.map fun m => (m, firmL (lessOf d (rowsOf n0 n1 n2 n3 n4)) St m)).map rowR))] σ Q := fun {d σ Q} h => by
    refine spec_law_tally G₁ (by omega) (hR d) (hRl d) ?_
    rw [List.map_map]
    exact h
  have sc : ∀ {d : Int} {σ : Sig} {Q : D → Sig → Prop}, d = 1 ∨ d = -1 → Q (.bool true) σ → WL c₁ c₁.DV (fun vs => call (.ref 281) vs) [hdD (.lst ((T.map fun m => (m, firmL (lessOf d (rowsOf n0 n1 n2 n3 n4)) St m)).map rowR)), pcD pc] σ Q := fun {d σ Q} hd h => by
    refine spec_law_covers G₁ (by omega) (hR d) (hRl d) ?_ h
    rw [List.flatMap_map]
    exact W.cov d hd
  have sk : ∀ {d : Int} {σ : Sig} {Q : D → Sig → Prop}, Q (.lst (sts (T.map txt))) σ → WL c₁ c₁.DV (fun vs => call (.ref 204) vs) [hdD (.lst ((T.map fun m => (m, firmL (lessOf d (rowsOf n0 n1 n2 n3 n4)) St m)).map rowR))] σ Q := fun {d σ Q} h => by
    have e : (T.map fun m => (m, firmL (lessOf d (rowsOf n0 n1 n2 n3 n4)) St m)).map rowR = (T.map fun m => (txt m, tx (firmL (lessOf d (rowsOf n0 n1 n2 n3 n4)) St m))).map rowS := by rw [List.map_map, List.map_map]; rfl
    rw [e]
    refine spec_keys G₁ (by omega) (by rw [List.length_map]; omega) ?_
    rw [List.map_map]
    unfold sts at h
    rw [List.map_map] at h
    exact h
  have hsh : PySem.SeqAt.shaped (.list ((T.map txt).map .str)) = true := shaped_sts (by
    rw [List.all_map, List.all_eq_true]
    exact fun m hm => txt_all m (hT32 m hm))
  (with_reducible refine E_CallF (by with_unfolding_all exact rfl) (by with_unfolding_all exact rfl) ?_)
  repeat kbo_bools
  refine ⟨_, _, _, rfl, G₁.K 286 _ rfl, rfl, ?_⟩
  repeat kbo_bools
  (with_reducible refine sy ?_)
  repeat kbo_bools
  -- the answer
  (with_reducible refine E_and ?_)
  repeat kbo_bools
  (with_reducible refine E_MethF0 G₁.K (by with_unfolding_all exact rfl) ?_)
  repeat kbo_bools
  (with_reducible refine ⟨_, gmf_keys G₁, keep204 _, ?_⟩)
  (with_reducible refine sk ?_)
  repeat kbo_bools
  (with_reducible refine eq_l (G₁.room (by omega)) .lst (pys_sts _) hsh .lst (pys_sts _) hsh ?_)
  rw [eqv_sts]
  repeat kbo_bools
  (with_reducible refine ⟨rfl, ?_⟩)
  (with_reducible refine E_and ?_)
  repeat kbo_bools
  (with_reducible refine E_MethF0 G₁.K (by with_unfolding_all exact rfl) ?_)
  repeat kbo_bools
  (with_reducible refine ⟨_, gmf_keys G₁, keep204 _, ?_⟩)
  (with_reducible refine sk ?_)
  repeat kbo_bools
  (with_reducible refine eq_l (G₁.room (by omega)) .lst (pys_sts _) hsh .lst (pys_sts _) hsh ?_)
  rw [eqv_sts]
  repeat kbo_bools
  (with_reducible refine ⟨rfl, ?_⟩)
  (with_reducible refine E_and ?_)
  (with_reducible refine E_CallF (by with_unfolding_all exact rfl) (by with_unfolding_all exact rfl) ?_)
  repeat kbo_bools
  refine ⟨_, _, _, rfl, G₁.K 281 _ rfl, rfl, ?_⟩
  repeat kbo_bools
  (with_reducible refine sc (.inl rfl) ?_)
  repeat kbo_bools
  (with_reducible refine ⟨rfl, ?_⟩)
  (with_reducible refine E_and ?_)
  (with_reducible refine E_CallF (by with_unfolding_all exact rfl) (by with_unfolding_all exact rfl) ?_)
  repeat kbo_bools
  refine ⟨_, _, _, rfl, G₁.K 281 _ rfl, rfl, ?_⟩
  repeat kbo_bools
  (with_reducible refine sc (.inr rfl) ?_)
  repeat kbo_bools
  (with_reducible refine ⟨rfl, ?_⟩)
  (with_reducible refine E_and ?_)
  repeat kbo_bools
  (with_reducible refine E_CallF (by with_unfolding_all exact rfl) (by with_unfolding_all exact rfl) ?_)
  repeat kbo_bools
  refine ⟨_, _, _, rfl, G₁.K 286 _ rfl, rfl, ?_⟩
  repeat kbo_bools
  (with_reducible refine sy ?_)
  repeat kbo_bools
  (with_reducible refine eq_d (by have := G₁.room (by omega); omega) ?_)
  rw [W.tal]
  repeat kbo_bools
  (with_reducible refine ⟨rfl, ?_⟩)
  (with_reducible refine E_and_one ?_)
  repeat kbo_bools
  (with_reducible refine E_CallF (by with_unfolding_all exact rfl) (by with_unfolding_all exact rfl) ?_)
  repeat kbo_bools
  refine ⟨_, _, _, rfl, G₁.K 80 _ rfl, rfl, ?_⟩
  repeat kbo_bools
  (with_reducible refine spec_count_calls G₁ (by omega) ?_)
  (with_reducible refine E_CallB (by with_unfolding_all exact rfl) (by with_unfolding_all exact rfl) (by with_unfolding_all exact rfl) ?_)
  repeat kbo_bools
  (with_reducible refine ⟨_, rfl, ?_⟩)
  repeat kbo_bools
  have hle : (sts (T.map txt)).length = T.length := by unfold sts; rw [List.length_map, List.length_map]
  (with_reducible refine len_l .lst (by rw [hle]; omega) ?_)
  rw [hle, W.tot]
  repeat kbo_bools
  rw [beq_self_eq_true]
  exact ⟨_, _, .ret _, .more (.more (.more .done)), rfl⟩
end

end Mine

namespace Mine
open PySem PySem.W PyProof.Rows

/-! the plain law, 1: the graphs by numbers -/
noncomputable def mrg (l : List Nat) (h t : Nat) : List Nat := l.map fun x => match Nat.beq x t with | true => h | false => x
noncomputable def twN (rs : Nat → Nat × Nat) : Nat → List (List Nat)
  | 0 => [[0, 1, 2, 3]]
  | k + 1 => (twN rs k).flatMap fun l => [mrg l (l.getD (rs k).1 0) (l.getD (rs k).2 0), l]
noncomputable def b2n (b : Bool) : Nat := match b with | true => 0 | false => 1
noncomputable def cnt4 : List Nat → Nat
  | [a, b, c, d] => b2n (Nat.beq b a) + b2n (Nat.beq c a || Nat.beq c b) + b2n (Nat.beq d a || Nat.beq d b || Nat.beq d c)
  | _ => 0
noncomputable def rsN (a b p q r t : Nat) : Nat → Nat × Nat
  | 0 => (1, 0)
  | 1 => (2, a)
  | 2 => (3, b)
  | 3 => (p, q)
  | _ => (r, t)
noncomputable def tab4 : List (List (List Nat)) := [
  [[3, 3, 3, 3], [3, 3, 3, 3], [2, 2, 2, 3], [2, 2, 2, 3], [3, 3, 2, 3], [3, 3, 2, 3], [1, 1, 2, 3], [1, 1, 2, 3], [3, 1, 3, 3], [3, 1, 3, 3], [2, 1, 2, 3], [2, 1, 2, 3], [3, 1, 2, 3], [3, 1, 2, 3], [0, 1, 2, 3], [0, 1, 2, 3]],
  [[3, 3, 3, 3], [3, 3, 3, 3], [2, 2, 2, 3], [2, 2, 2, 3], [3, 3, 2, 3], [3, 3, 2, 3], [1, 1, 2, 3], [1, 1, 2, 3], [3, 3, 3, 3], [3, 1, 3, 3], [2, 2, 2, 3], [2, 1, 2, 3], [3, 3, 2, 3], [3, 1, 2, 3], [0, 0, 2, 3], [0, 1, 2, 3]],
  [[3, 3, 3, 3], [3, 3, 3, 3], [2, 2, 2, 3], [2, 2, 2, 3], [3, 3, 3, 3], [3, 3, 2, 3], [1, 1, 1, 3], [1, 1, 2, 3], [3, 1, 3, 3], [3, 1, 3, 3], [2, 1, 2, 3], [2, 1, 2, 3], [3, 1, 3, 3], [3, 1, 2, 3], [0, 1, 0, 3], [0, 1, 2, 3]],
  [[3, 3, 3, 3], [3, 3, 3, 3], [2, 2, 2, 2], [2, 2, 2, 3], [3, 3, 2, 3], [3, 3, 2, 3], [1, 1, 2, 1], [1, 1, 2, 3], [3, 1, 3, 3], [3, 1, 3, 3], [2, 1, 2, 2], [2, 1, 2, 3], [3, 1, 2, 3], [3, 1, 2, 3], [0, 1, 2, 0], [0, 1, 2, 3]],
  [[3, 3, 3, 3], [3, 3, 3, 3], [2, 2, 2, 3], [2, 2, 2, 3], [3, 3, 2, 3], [3, 3, 2, 3], [1, 1, 2, 3], [1, 1, 2, 3], [1, 1, 1, 1], [3, 1, 3, 3], [1, 1, 1, 3], [2, 1, 2, 3], [1, 1, 2, 1], [3, 1, 2, 3], [1, 1, 2, 3], [0, 1, 2, 3]],
  [[3, 3, 3, 3], [3, 3, 3, 3], [2, 2, 2, 3], [2, 2, 2, 3], [3, 3, 2, 3], [3, 3, 2, 3], [1, 1, 2, 3], [1, 1, 2, 3], [3, 1, 3, 3], [3, 1, 3, 3], [2, 1, 2, 3], [2, 1, 2, 3], [3, 1, 2, 3], [3, 1, 2, 3], [0, 1, 2, 3], [0, 1, 2, 3]],
  [[3, 3, 3, 3], [3, 3, 3, 3], [2, 2, 2, 3], [2, 2, 2, 3], [3, 3, 3, 3], [3, 3, 2, 3], [1, 1, 1, 3], [1, 1, 2, 3], [1, 1, 1, 1], [3, 1, 3, 3], [1, 1, 1, 3], [2, 1, 2, 3], [3, 1, 1, 3], [3, 1, 2, 3], [0, 1, 1, 3], [0, 1, 2, 3]],
  [[3, 3, 3, 3], [3, 3, 3, 3], [2, 2, 2, 2], [2, 2, 2, 3], [3, 3, 2, 3], [3, 3, 2, 3], [1, 1, 2, 1], [1, 1, 2, 3], [1, 1, 1, 1], [3, 1, 3, 3], [2, 1, 2, 1], [2, 1, 2, 3], [1, 1, 2, 1], [3, 1, 2, 3], [0, 1, 2, 1], [0, 1, 2, 3]],
  [[3, 3, 3, 3], [3, 3, 3, 3], [2, 2, 2, 3], [2, 2, 2, 3], [2, 2, 2, 2], [3, 3, 2, 3], [2, 2, 2, 3], [1, 1, 2, 3], [3, 1, 3, 3], [3, 1, 3, 3], [2, 1, 2, 3], [2, 1, 2, 3], [2, 1, 2, 2], [3, 1, 2, 3], [2, 1, 2, 3], [0, 1, 2, 3]],
  [[3, 3, 3, 3], [3, 3, 3, 3], [2, 2, 2, 3], [2, 2, 2, 3], [2, 2, 2, 2], [3, 3, 2, 3], [2, 2, 2, 3], [1, 1, 2, 3], [3, 3, 3, 3], [3, 1, 3, 3], [2, 2, 2, 3], [2, 1, 2, 3], [3, 2, 2, 3], [3, 1, 2, 3], [0, 2, 2, 3], [0, 1, 2, 3]],
  [[3, 3, 3, 3], [3, 3, 3, 3], [2, 2, 2, 3], [2, 2, 2, 3], [3, 3, 2, 3], [3, 3, 2, 3], [1, 1, 2, 3], [1, 1, 2, 3], [3, 1, 3, 3], [3, 1, 3, 3], [2, 1, 2, 3], [2, 1, 2, 3], [3, 1, 2, 3], [3, 1, 2, 3], [0, 1, 2, 3], [0, 1, 2, 3]],
  [[3, 3, 3, 3], [3, 3, 3, 3], [2, 2, 2, 2], [2, 2, 2, 3], [2, 2, 2, 2], [3, 3, 2, 3], [1, 1, 2, 2], [1, 1, 2, 3], [3, 1, 3, 3], [3, 1, 3, 3], [2, 1, 2, 2], [2, 1, 2, 3], [2, 1, 2, 2], [3, 1, 2, 3], [0, 1, 2, 2], [0, 1, 2, 3]],
  [[3, 3, 3, 3], [3, 3, 3, 3], [3, 3, 3, 3], [2, 2, 2, 3], [3, 3, 2, 3], [3, 3, 2, 3], [3, 3, 2, 3], [1, 1, 2, 3], [3, 1, 3, 3], [3, 1, 3, 3], [3, 1, 3, 3], [2, 1, 2, 3], [3, 1, 2, 3], [3, 1, 2, 3], [3, 1, 2, 3], [0, 1, 2, 3]],
  [[3, 3, 3, 3], [3, 3, 3, 3], [3, 3, 3, 3], [2, 2, 2, 3], [3, 3, 2, 3], [3, 3, 2, 3], [3, 3, 2, 3], [1, 1, 2, 3], [3, 3, 3, 3], [3, 1, 3, 3], [2, 3, 2, 3], [2, 1, 2, 3], [3, 3, 2, 3], [3, 1, 2, 3], [0, 3, 2, 3], [0, 1, 2, 3]],
  [[3, 3, 3, 3], [3, 3, 3, 3], [3, 3, 3, 3], [2, 2, 2, 3], [3, 3, 3, 3], [3, 3, 2, 3], [1, 1, 3, 3], [1, 1, 2, 3], [3, 1, 3, 3], [3, 1, 3, 3], [3, 1, 3, 3], [2, 1, 2, 3], [3, 1, 3, 3], [3, 1, 2, 3], [0, 1, 3, 3], [0, 1, 2, 3]],
  [[3, 3, 3, 3], [3, 3, 3, 3], [2, 2, 2, 3], [2, 2, 2, 3], [3, 3, 2, 3], [3, 3, 2, 3], [1, 1, 2, 3], [1, 1, 2, 3], [3, 1, 3, 3], [3, 1, 3, 3], [2, 1, 2, 3], [2, 1, 2, 3], [3, 1, 2, 3], [3, 1, 2, 3], [0, 1, 2, 3], [0, 1, 2, 3]],
  [[3, 3, 3, 3], [3, 3, 3, 3], [2, 2, 2, 3], [2, 2, 2, 3], [3, 3, 2, 3], [3, 3, 2, 3], [1, 1, 2, 3], [1, 1, 2, 3], [2, 3, 2, 3], [2, 3, 2, 3], [2, 1, 2, 3], [2, 1, 2, 3], [0, 3, 2, 3], [0, 3, 2, 3], [0, 1, 2, 3], [0, 1, 2, 3]],
  [[3, 3, 3, 3], [3, 3, 3, 3], [2, 2, 2, 3], [2, 2, 2, 3], [3, 3, 2, 3], [3, 3, 2, 3], [1, 1, 2, 3], [1, 1, 2, 3], [2, 2, 2, 2], [2, 3, 2, 3], [2, 2, 2, 3], [2, 1, 2, 3], [0, 0, 2, 0], [0, 3, 2, 3], [0, 0, 2, 3], [0, 1, 2, 3]],
  [[3, 3, 3, 3], [3, 3, 3, 3], [2, 2, 2, 3], [2, 2, 2, 3], [3, 3, 3, 3], [3, 3, 2, 3], [1, 1, 1, 3], [1, 1, 2, 3], [2, 3, 2, 3], [2, 3, 2, 3], [2, 1, 2, 3], [2, 1, 2, 3], [0, 3, 0, 3], [0, 3, 2, 3], [0, 1, 0, 3], [0, 1, 2, 3]],
  [[3, 3, 3, 3], [3, 3, 3, 3], [2, 2, 2, 2], [2, 2, 2, 3], [3, 3, 2, 3], [3, 3, 2, 3], [1, 1, 2, 1], [1, 1, 2, 3], [2, 2, 2, 2], [2, 3, 2, 3], [2, 1, 2, 2], [2, 1, 2, 3], [0, 0, 2, 0], [0, 3, 2, 3], [0, 1, 2, 0], [0, 1, 2, 3]],
  [[3, 3, 3, 3], [3, 3, 3, 3], [2, 2, 2, 3], [2, 2, 2, 3], [3, 3, 2, 3], [3, 3, 2, 3], [1, 1, 2, 3], [1, 1, 2, 3], [3, 3, 3, 3], [2, 3, 2, 3], [1, 1, 1, 3], [2, 1, 2, 3], [3, 3, 2, 3], [0, 3, 2, 3], [1, 1, 2, 3], [0, 1, 2, 3]],
  [[3, 3, 3, 3], [3, 3, 3, 3], [2, 2, 2, 3], [2, 2, 2, 3], [3, 3, 2, 3], [3, 3, 2, 3], [1, 1, 2, 3], [1, 1, 2, 3], [2, 3, 2, 3], [2, 3, 2, 3], [2, 1, 2, 3], [2, 1, 2, 3], [0, 3, 2, 3], [0, 3, 2, 3], [0, 1, 2, 3], [0, 1, 2, 3]],
  [[3, 3, 3, 3], [3, 3, 3, 3], [2, 2, 2, 3], [2, 2, 2, 3], [3, 3, 3, 3], [3, 3, 2, 3], [1, 1, 1, 3], [1, 1, 2, 3], [3, 3, 3, 3], [2, 3, 2, 3], [1, 1, 1, 3], [2, 1, 2, 3], [0, 3, 3, 3], [0, 3, 2, 3], [0, 1, 1, 3], [0, 1, 2, 3]],
  [[3, 3, 3, 3], [3, 3, 3, 3], [2, 2, 2, 2], [2, 2, 2, 3], [3, 3, 2, 3], [3, 3, 2, 3], [1, 1, 2, 1], [1, 1, 2, 3], [2, 3, 2, 3], [2, 3, 2, 3], [2, 1, 2, 1], [2, 1, 2, 3], [0, 3, 2, 3], [0, 3, 2, 3], [0, 1, 2, 1], [0, 1, 2, 3]],
  [[3, 3, 3, 3], [3, 3, 3, 3], [2, 2, 2, 3], [2, 2, 2, 3], [2, 2, 2, 2], [3, 3, 2, 3], [2, 2, 2, 3], [1, 1, 2, 3], [2, 3, 2, 3], [2, 3, 2, 3], [2, 1, 2, 3], [2, 1, 2, 3], [2, 3, 2, 3], [0, 3, 2, 3], [2, 1, 2, 3], [0, 1, 2, 3]],
  [[3, 3, 3, 3], [3, 3, 3, 3], [2, 2, 2, 3], [2, 2, 2, 3], [2, 2, 2, 2], [3, 3, 2, 3], [2, 2, 2, 3], [1, 1, 2, 3], [2, 2, 2, 2], [2, 3, 2, 3], [2, 2, 2, 3], [2, 1, 2, 3], [0, 2, 2, 2], [0, 3, 2, 3], [0, 2, 2, 3], [0, 1, 2, 3]],
  [[3, 3, 3, 3], [3, 3, 3, 3], [2, 2, 2, 3], [2, 2, 2, 3], [3, 3, 2, 3], [3, 3, 2, 3], [1, 1, 2, 3], [1, 1, 2, 3], [2, 3, 2, 3], [2, 3, 2, 3], [2, 1, 2, 3], [2, 1, 2, 3], [0, 3, 2, 3], [0, 3, 2, 3], [0, 1, 2, 3], [0, 1, 2, 3]],
  [[3, 3, 3, 3], [3, 3, 3, 3], [2, 2, 2, 2], [2, 2, 2, 3], [2, 2, 2, 2], [3, 3, 2, 3], [1, 1, 2, 2], [1, 1, 2, 3], [2, 2, 2, 2], [2, 3, 2, 3], [2, 1, 2, 2], [2, 1, 2, 3], [0, 2, 2, 2], [0, 3, 2, 3], [0, 1, 2, 2], [0, 1, 2, 3]],
  [[3, 3, 3, 3], [3, 3, 3, 3], [3, 3, 3, 3], [2, 2, 2, 3], [3, 3, 2, 3], [3, 3, 2, 3], [3, 3, 2, 3], [1, 1, 2, 3], [3, 3, 3, 3], [2, 3, 2, 3], [3, 1, 3, 3], [2, 1, 2, 3], [3, 3, 2, 3], [0, 3, 2, 3], [3, 1, 2, 3], [0, 1, 2, 3]],
  [[3, 3, 3, 3], [3, 3, 3, 3], [3, 3, 3, 3], [2, 2, 2, 3], [3, 3, 2, 3], [3, 3, 2, 3], [3, 3, 2, 3], [1, 1, 2, 3], [2, 3, 2, 3], [2, 3, 2, 3], [2, 3, 2, 3], [2, 1, 2, 3], [0, 3, 2, 3], [0, 3, 2, 3], [0, 3, 2, 3], [0, 1, 2, 3]],
  [[3, 3, 3, 3], [3, 3, 3, 3], [3, 3, 3, 3], [2, 2, 2, 3], [3, 3, 3, 3], [3, 3, 2, 3], [1, 1, 3, 3], [1, 1, 2, 3], [3, 3, 3, 3], [2, 3, 2, 3], [3, 1, 3, 3], [2, 1, 2, 3], [0, 3, 3, 3], [0, 3, 2, 3], [0, 1, 3, 3], [0, 1, 2, 3]],
  [[3, 3, 3, 3], [3, 3, 3, 3], [2, 2, 2, 3], [2, 2, 2, 3], [3, 3, 2, 3], [3, 3, 2, 3], [1, 1, 2, 3], [1, 1, 2, 3], [2, 3, 2, 3], [2, 3, 2, 3], [2, 1, 2, 3], [2, 1, 2, 3], [0, 3, 2, 3], [0, 3, 2, 3], [0, 1, 2, 3], [0, 1, 2, 3]],
  [[3, 3, 3, 3], [3, 3, 3, 3], [2, 2, 2, 3], [2, 2, 2, 3], [1, 1, 3, 3], [1, 1, 3, 3], [1, 1, 2, 3], [1, 1, 2, 3], [3, 1, 3, 3], [3, 1, 3, 3], [2, 1, 2, 3], [2, 1, 2, 3], [0, 1, 3, 3], [0, 1, 3, 3], [0, 1, 2, 3], [0, 1, 2, 3]],
  [[3, 3, 3, 3], [3, 3, 3, 3], [2, 2, 2, 3], [2, 2, 2, 3], [1, 1, 3, 3], [1, 1, 3, 3], [1, 1, 2, 3], [1, 1, 2, 3], [3, 3, 3, 3], [3, 1, 3, 3], [2, 2, 2, 3], [2, 1, 2, 3], [0, 0, 3, 3], [0, 1, 3, 3], [0, 0, 2, 3], [0, 1, 2, 3]],
  [[3, 3, 3, 3], [3, 3, 3, 3], [2, 2, 2, 3], [2, 2, 2, 3], [1, 1, 1, 1], [1, 1, 3, 3], [1, 1, 1, 3], [1, 1, 2, 3], [3, 1, 3, 3], [3, 1, 3, 3], [2, 1, 2, 3], [2, 1, 2, 3], [0, 1, 0, 0], [0, 1, 3, 3], [0, 1, 0, 3], [0, 1, 2, 3]],
  [[3, 3, 3, 3], [3, 3, 3, 3], [2, 2, 2, 2], [2, 2, 2, 3], [1, 1, 1, 1], [1, 1, 3, 3], [1, 1, 2, 1], [1, 1, 2, 3], [3, 1, 3, 3], [3, 1, 3, 3], [2, 1, 2, 2], [2, 1, 2, 3], [0, 1, 0, 0], [0, 1, 3, 3], [0, 1, 2, 0], [0, 1, 2, 3]],
  [[3, 3, 3, 3], [3, 3, 3, 3], [2, 2, 2, 3], [2, 2, 2, 3], [1, 1, 3, 3], [1, 1, 3, 3], [1, 1, 2, 3], [1, 1, 2, 3], [1, 1, 1, 1], [3, 1, 3, 3], [1, 1, 1, 3], [2, 1, 2, 3], [1, 1, 3, 3], [0, 1, 3, 3], [1, 1, 2, 3], [0, 1, 2, 3]],
  [[3, 3, 3, 3], [3, 3, 3, 3], [2, 2, 2, 3], [2, 2, 2, 3], [1, 1, 3, 3], [1, 1, 3, 3], [1, 1, 2, 3], [1, 1, 2, 3], [3, 1, 3, 3], [3, 1, 3, 3], [2, 1, 2, 3], [2, 1, 2, 3], [0, 1, 3, 3], [0, 1, 3, 3], [0, 1, 2, 3], [0, 1, 2, 3]],
  [[3, 3, 3, 3], [3, 3, 3, 3], [2, 2, 2, 3], [2, 2, 2, 3], [1, 1, 1, 1], [1, 1, 3, 3], [1, 1, 1, 3], [1, 1, 2, 3], [1, 1, 1, 1], [3, 1, 3, 3], [1, 1, 1, 3], [2, 1, 2, 3], [0, 1, 1, 1], [0, 1, 3, 3], [0, 1, 1, 3], [0, 1, 2, 3]],
  [[3, 3, 3, 3], [3, 3, 3, 3], [2, 2, 2, 2], [2, 2, 2, 3], [1, 1, 1, 1], [1, 1, 3, 3], [1, 1, 2, 1], [1, 1, 2, 3], [1, 1, 1, 1], [3, 1, 3, 3], [2, 1, 2, 1], [2, 1, 2, 3], [0, 1, 1, 1], [0, 1, 3, 3], [0, 1, 2, 1], [0, 1, 2, 3]],
  [[3, 3, 3, 3], [3, 3, 3, 3], [2, 2, 2, 3], [2, 2, 2, 3], [3, 3, 3, 3], [1, 1, 3, 3], [2, 2, 2, 3], [1, 1, 2, 3], [3, 1, 3, 3], [3, 1, 3, 3], [2, 1, 2, 3], [2, 1, 2, 3], [3, 1, 3, 3], [0, 1, 3, 3], [2, 1, 2, 3], [0, 1, 2, 3]],
  [[3, 3, 3, 3], [3, 3, 3, 3], [2, 2, 2, 3], [2, 2, 2, 3], [3, 3, 3, 3], [1, 1, 3, 3], [2, 2, 2, 3], [1, 1, 2, 3], [3, 3, 3, 3], [3, 1, 3, 3], [2, 2, 2, 3], [2, 1, 2, 3], [0, 3, 3, 3], [0, 1, 3, 3], [0, 2, 2, 3], [0, 1, 2, 3]],
  [[3, 3, 3, 3], [3, 3, 3, 3], [2, 2, 2, 3], [2, 2, 2, 3], [1, 1, 3, 3], [1, 1, 3, 3], [1, 1, 2, 3], [1, 1, 2, 3], [3, 1, 3, 3], [3, 1, 3, 3], [2, 1, 2, 3], [2, 1, 2, 3], [0, 1, 3, 3], [0, 1, 3, 3], [0, 1, 2, 3], [0, 1, 2, 3]],
  [[3, 3, 3, 3], [3, 3, 3, 3], [2, 2, 2, 2], [2, 2, 2, 3], [1, 1, 3, 3], [1, 1, 3, 3], [1, 1, 2, 2], [1, 1, 2, 3], [3, 1, 3, 3], [3, 1, 3, 3], [2, 1, 2, 2], [2, 1, 2, 3], [0, 1, 3, 3], [0, 1, 3, 3], [0, 1, 2, 2], [0, 1, 2, 3]],
  [[3, 3, 3, 3], [3, 3, 3, 3], [3, 3, 3, 3], [2, 2, 2, 3], [3, 3, 3, 3], [1, 1, 3, 3], [3, 3, 2, 3], [1, 1, 2, 3], [3, 1, 3, 3], [3, 1, 3, 3], [3, 1, 3, 3], [2, 1, 2, 3], [3, 1, 3, 3], [0, 1, 3, 3], [3, 1, 2, 3], [0, 1, 2, 3]],
  [[3, 3, 3, 3], [3, 3, 3, 3], [3, 3, 3, 3], [2, 2, 2, 3], [3, 3, 3, 3], [1, 1, 3, 3], [3, 3, 2, 3], [1, 1, 2, 3], [3, 3, 3, 3], [3, 1, 3, 3], [2, 3, 2, 3], [2, 1, 2, 3], [0, 3, 3, 3], [0, 1, 3, 3], [0, 3, 2, 3], [0, 1, 2, 3]],
  [[3, 3, 3, 3], [3, 3, 3, 3], [3, 3, 3, 3], [2, 2, 2, 3], [1, 1, 3, 3], [1, 1, 3, 3], [1, 1, 3, 3], [1, 1, 2, 3], [3, 1, 3, 3], [3, 1, 3, 3], [3, 1, 3, 3], [2, 1, 2, 3], [0, 1, 3, 3], [0, 1, 3, 3], [0, 1, 3, 3], [0, 1, 2, 3]],
  [[3, 3, 3, 3], [3, 3, 3, 3], [2, 2, 2, 3], [2, 2, 2, 3], [1, 1, 3, 3], [1, 1, 3, 3], [1, 1, 2, 3], [1, 1, 2, 3], [3, 1, 3, 3], [3, 1, 3, 3], [2, 1, 2, 3], [2, 1, 2, 3], [0, 1, 3, 3], [0, 1, 3, 3], [0, 1, 2, 3], [0, 1, 2, 3]],
  [[3, 3, 3, 3], [3, 3, 3, 3], [2, 2, 2, 3], [2, 2, 2, 3], [3, 3, 2, 3], [3, 3, 2, 3], [1, 1, 2, 3], [1, 1, 2, 3], [3, 2, 2, 3], [3, 2, 2, 3], [0, 2, 2, 3], [0, 2, 2, 3], [3, 1, 2, 3], [3, 1, 2, 3], [0, 1, 2, 3], [0, 1, 2, 3]],
  [[3, 3, 3, 3], [3, 3, 3, 3], [2, 2, 2, 3], [2, 2, 2, 3], [3, 3, 2, 3], [3, 3, 2, 3], [1, 1, 2, 3], [1, 1, 2, 3], [3, 3, 3, 3], [3, 2, 2, 3], [0, 0, 0, 3], [0, 2, 2, 3], [3, 3, 2, 3], [3, 1, 2, 3], [0, 0, 2, 3], [0, 1, 2, 3]],
  [[3, 3, 3, 3], [3, 3, 3, 3], [2, 2, 2, 3], [2, 2, 2, 3], [3, 3, 3, 3], [3, 3, 2, 3], [1, 1, 1, 3], [1, 1, 2, 3], [3, 3, 3, 3], [3, 2, 2, 3], [0, 0, 0, 3], [0, 2, 2, 3], [3, 1, 3, 3], [3, 1, 2, 3], [0, 1, 0, 3], [0, 1, 2, 3]],
  [[3, 3, 3, 3], [3, 3, 3, 3], [2, 2, 2, 2], [2, 2, 2, 3], [3, 3, 2, 3], [3, 3, 2, 3], [1, 1, 2, 1], [1, 1, 2, 3], [3, 2, 2, 3], [3, 2, 2, 3], [0, 2, 2, 0], [0, 2, 2, 3], [3, 1, 2, 3], [3, 1, 2, 3], [0, 1, 2, 0], [0, 1, 2, 3]],
  [[3, 3, 3, 3], [3, 3, 3, 3], [2, 2, 2, 3], [2, 2, 2, 3], [3, 3, 2, 3], [3, 3, 2, 3], [1, 1, 2, 3], [1, 1, 2, 3], [2, 2, 2, 2], [3, 2, 2, 3], [2, 2, 2, 3], [0, 2, 2, 3], [1, 1, 2, 1], [3, 1, 2, 3], [1, 1, 2, 3], [0, 1, 2, 3]],
  [[3, 3, 3, 3], [3, 3, 3, 3], [2, 2, 2, 3], [2, 2, 2, 3], [3, 3, 2, 3], [3, 3, 2, 3], [1, 1, 2, 3], [1, 1, 2, 3], [3, 2, 2, 3], [3, 2, 2, 3], [0, 2, 2, 3], [0, 2, 2, 3], [3, 1, 2, 3], [3, 1, 2, 3], [0, 1, 2, 3], [0, 1, 2, 3]],
  [[3, 3, 3, 3], [3, 3, 3, 3], [2, 2, 2, 3], [2, 2, 2, 3], [3, 3, 3, 3], [3, 3, 2, 3], [1, 1, 1, 3], [1, 1, 2, 3], [3, 2, 2, 3], [3, 2, 2, 3], [0, 2, 2, 3], [0, 2, 2, 3], [3, 1, 1, 3], [3, 1, 2, 3], [0, 1, 1, 3], [0, 1, 2, 3]],
  [[3, 3, 3, 3], [3, 3, 3, 3], [2, 2, 2, 2], [2, 2, 2, 3], [3, 3, 2, 3], [3, 3, 2, 3], [1, 1, 2, 1], [1, 1, 2, 3], [2, 2, 2, 2], [3, 2, 2, 3], [0, 2, 2, 2], [0, 2, 2, 3], [1, 1, 2, 1], [3, 1, 2, 3], [0, 1, 2, 1], [0, 1, 2, 3]],
  [[3, 3, 3, 3], [3, 3, 3, 3], [2, 2, 2, 3], [2, 2, 2, 3], [2, 2, 2, 2], [3, 3, 2, 3], [2, 2, 2, 3], [1, 1, 2, 3], [2, 2, 2, 2], [3, 2, 2, 3], [2, 2, 2, 3], [0, 2, 2, 3], [2, 1, 2, 2], [3, 1, 2, 3], [2, 1, 2, 3], [0, 1, 2, 3]],
  [[3, 3, 3, 3], [3, 3, 3, 3], [2, 2, 2, 3], [2, 2, 2, 3], [2, 2, 2, 2], [3, 3, 2, 3], [2, 2, 2, 3], [1, 1, 2, 3], [3, 2, 2, 3], [3, 2, 2, 3], [0, 2, 2, 3], [0, 2, 2, 3], [3, 2, 2, 3], [3, 1, 2, 3], [0, 2, 2, 3], [0, 1, 2, 3]],
  [[3, 3, 3, 3], [3, 3, 3, 3], [2, 2, 2, 3], [2, 2, 2, 3], [3, 3, 2, 3], [3, 3, 2, 3], [1, 1, 2, 3], [1, 1, 2, 3], [3, 2, 2, 3], [3, 2, 2, 3], [0, 2, 2, 3], [0, 2, 2, 3], [3, 1, 2, 3], [3, 1, 2, 3], [0, 1, 2, 3], [0, 1, 2, 3]],
  [[3, 3, 3, 3], [3, 3, 3, 3], [2, 2, 2, 2], [2, 2, 2, 3], [2, 2, 2, 2], [3, 3, 2, 3], [1, 1, 2, 2], [1, 1, 2, 3], [2, 2, 2, 2], [3, 2, 2, 3], [0, 2, 2, 2], [0, 2, 2, 3], [2, 1, 2, 2], [3, 1, 2, 3], [0, 1, 2, 2], [0, 1, 2, 3]],
  [[3, 3, 3, 3], [3, 3, 3, 3], [3, 3, 3, 3], [2, 2, 2, 3], [3, 3, 2, 3], [3, 3, 2, 3], [3, 3, 2, 3], [1, 1, 2, 3], [3, 2, 2, 3], [3, 2, 2, 3], [3, 2, 2, 3], [0, 2, 2, 3], [3, 1, 2, 3], [3, 1, 2, 3], [3, 1, 2, 3], [0, 1, 2, 3]],
  [[3, 3, 3, 3], [3, 3, 3, 3], [3, 3, 3, 3], [2, 2, 2, 3], [3, 3, 2, 3], [3, 3, 2, 3], [3, 3, 2, 3], [1, 1, 2, 3], [3, 3, 3, 3], [3, 2, 2, 3], [0, 3, 3, 3], [0, 2, 2, 3], [3, 3, 2, 3], [3, 1, 2, 3], [0, 3, 2, 3], [0, 1, 2, 3]],
  [[3, 3, 3, 3], [3, 3, 3, 3], [3, 3, 3, 3], [2, 2, 2, 3], [3, 3, 3, 3], [3, 3, 2, 3], [1, 1, 3, 3], [1, 1, 2, 3], [3, 3, 3, 3], [3, 2, 2, 3], [0, 3, 3, 3], [0, 2, 2, 3], [3, 1, 3, 3], [3, 1, 2, 3], [0, 1, 3, 3], [0, 1, 2, 3]],
  [[3, 3, 3, 3], [3, 3, 3, 3], [2, 2, 2, 3], [2, 2, 2, 3], [3, 3, 2, 3], [3, 3, 2, 3], [1, 1, 2, 3], [1, 1, 2, 3], [3, 2, 2, 3], [3, 2, 2, 3], [0, 2, 2, 3], [0, 2, 2, 3], [3, 1, 2, 3], [3, 1, 2, 3], [0, 1, 2, 3], [0, 1, 2, 3]],
  [[3, 3, 3, 3], [3, 3, 3, 3], [2, 2, 2, 3], [2, 2, 2, 3], [3, 3, 2, 3], [3, 3, 2, 3], [1, 1, 2, 3], [1, 1, 2, 3], [0, 3, 3, 3], [0, 3, 3, 3], [0, 2, 2, 3], [0, 2, 2, 3], [0, 3, 2, 3], [0, 3, 2, 3], [0, 1, 2, 3], [0, 1, 2, 3]],
  [[3, 3, 3, 3], [3, 3, 3, 3], [2, 2, 2, 3], [2, 2, 2, 3], [3, 3, 2, 3], [3, 3, 2, 3], [1, 1, 2, 3], [1, 1, 2, 3], [0, 0, 0, 0], [0, 3, 3, 3], [0, 0, 0, 3], [0, 2, 2, 3], [0, 0, 2, 0], [0, 3, 2, 3], [0, 0, 2, 3], [0, 1, 2, 3]],
  [[3, 3, 3, 3], [3, 3, 3, 3], [2, 2, 2, 3], [2, 2, 2, 3], [3, 3, 3, 3], [3, 3, 2, 3], [1, 1, 1, 3], [1, 1, 2, 3], [0, 0, 0, 0], [0, 3, 3, 3], [0, 0, 0, 3], [0, 2, 2, 3], [0, 3, 0, 3], [0, 3, 2, 3], [0, 1, 0, 3], [0, 1, 2, 3]],
  [[3, 3, 3, 3], [3, 3, 3, 3], [2, 2, 2, 2], [2, 2, 2, 3], [3, 3, 2, 3], [3, 3, 2, 3], [1, 1, 2, 1], [1, 1, 2, 3], [0, 0, 0, 0], [0, 3, 3, 3], [0, 2, 2, 0], [0, 2, 2, 3], [0, 0, 2, 0], [0, 3, 2, 3], [0, 1, 2, 0], [0, 1, 2, 3]],
  [[3, 3, 3, 3], [3, 3, 3, 3], [2, 2, 2, 3], [2, 2, 2, 3], [3, 3, 2, 3], [3, 3, 2, 3], [1, 1, 2, 3], [1, 1, 2, 3], [3, 3, 3, 3], [0, 3, 3, 3], [2, 2, 2, 3], [0, 2, 2, 3], [3, 3, 2, 3], [0, 3, 2, 3], [1, 1, 2, 3], [0, 1, 2, 3]],
  [[3, 3, 3, 3], [3, 3, 3, 3], [2, 2, 2, 3], [2, 2, 2, 3], [3, 3, 2, 3], [3, 3, 2, 3], [1, 1, 2, 3], [1, 1, 2, 3], [0, 3, 3, 3], [0, 3, 3, 3], [0, 2, 2, 3], [0, 2, 2, 3], [0, 3, 2, 3], [0, 3, 2, 3], [0, 1, 2, 3], [0, 1, 2, 3]],
  [[3, 3, 3, 3], [3, 3, 3, 3], [2, 2, 2, 3], [2, 2, 2, 3], [3, 3, 3, 3], [3, 3, 2, 3], [1, 1, 1, 3], [1, 1, 2, 3], [0, 3, 3, 3], [0, 3, 3, 3], [0, 2, 2, 3], [0, 2, 2, 3], [0, 3, 3, 3], [0, 3, 2, 3], [0, 1, 1, 3], [0, 1, 2, 3]],
  [[3, 3, 3, 3], [3, 3, 3, 3], [2, 2, 2, 2], [2, 2, 2, 3], [3, 3, 2, 3], [3, 3, 2, 3], [1, 1, 2, 1], [1, 1, 2, 3], [0, 3, 3, 3], [0, 3, 3, 3], [0, 2, 2, 2], [0, 2, 2, 3], [0, 3, 2, 3], [0, 3, 2, 3], [0, 1, 2, 1], [0, 1, 2, 3]],
  [[3, 3, 3, 3], [3, 3, 3, 3], [2, 2, 2, 3], [2, 2, 2, 3], [2, 2, 2, 2], [3, 3, 2, 3], [2, 2, 2, 3], [1, 1, 2, 3], [3, 3, 3, 3], [0, 3, 3, 3], [2, 2, 2, 3], [0, 2, 2, 3], [2, 3, 2, 3], [0, 3, 2, 3], [2, 1, 2, 3], [0, 1, 2, 3]],
  [[3, 3, 3, 3], [3, 3, 3, 3], [2, 2, 2, 3], [2, 2, 2, 3], [2, 2, 2, 2], [3, 3, 2, 3], [2, 2, 2, 3], [1, 1, 2, 3], [0, 3, 3, 3], [0, 3, 3, 3], [0, 2, 2, 3], [0, 2, 2, 3], [0, 2, 2, 2], [0, 3, 2, 3], [0, 2, 2, 3], [0, 1, 2, 3]],
  [[3, 3, 3, 3], [3, 3, 3, 3], [2, 2, 2, 3], [2, 2, 2, 3], [3, 3, 2, 3], [3, 3, 2, 3], [1, 1, 2, 3], [1, 1, 2, 3], [0, 3, 3, 3], [0, 3, 3, 3], [0, 2, 2, 3], [0, 2, 2, 3], [0, 3, 2, 3], [0, 3, 2, 3], [0, 1, 2, 3], [0, 1, 2, 3]],
  [[3, 3, 3, 3], [3, 3, 3, 3], [2, 2, 2, 2], [2, 2, 2, 3], [2, 2, 2, 2], [3, 3, 2, 3], [1, 1, 2, 2], [1, 1, 2, 3], [0, 3, 3, 3], [0, 3, 3, 3], [0, 2, 2, 2], [0, 2, 2, 3], [0, 2, 2, 2], [0, 3, 2, 3], [0, 1, 2, 2], [0, 1, 2, 3]],
  [[3, 3, 3, 3], [3, 3, 3, 3], [3, 3, 3, 3], [2, 2, 2, 3], [3, 3, 2, 3], [3, 3, 2, 3], [3, 3, 2, 3], [1, 1, 2, 3], [3, 3, 3, 3], [0, 3, 3, 3], [3, 2, 2, 3], [0, 2, 2, 3], [3, 3, 2, 3], [0, 3, 2, 3], [3, 1, 2, 3], [0, 1, 2, 3]],
  [[3, 3, 3, 3], [3, 3, 3, 3], [3, 3, 3, 3], [2, 2, 2, 3], [3, 3, 2, 3], [3, 3, 2, 3], [3, 3, 2, 3], [1, 1, 2, 3], [0, 3, 3, 3], [0, 3, 3, 3], [0, 3, 3, 3], [0, 2, 2, 3], [0, 3, 2, 3], [0, 3, 2, 3], [0, 3, 2, 3], [0, 1, 2, 3]],
  [[3, 3, 3, 3], [3, 3, 3, 3], [3, 3, 3, 3], [2, 2, 2, 3], [3, 3, 3, 3], [3, 3, 2, 3], [1, 1, 3, 3], [1, 1, 2, 3], [0, 3, 3, 3], [0, 3, 3, 3], [0, 3, 3, 3], [0, 2, 2, 3], [0, 3, 3, 3], [0, 3, 2, 3], [0, 1, 3, 3], [0, 1, 2, 3]],
  [[3, 3, 3, 3], [3, 3, 3, 3], [2, 2, 2, 3], [2, 2, 2, 3], [3, 3, 2, 3], [3, 3, 2, 3], [1, 1, 2, 3], [1, 1, 2, 3], [0, 3, 3, 3], [0, 3, 3, 3], [0, 2, 2, 3], [0, 2, 2, 3], [0, 3, 2, 3], [0, 3, 2, 3], [0, 1, 2, 3], [0, 1, 2, 3]],
  [[3, 3, 3, 3], [3, 3, 3, 3], [2, 2, 2, 3], [2, 2, 2, 3], [1, 1, 3, 3], [1, 1, 3, 3], [1, 1, 2, 3], [1, 1, 2, 3], [0, 3, 3, 3], [0, 3, 3, 3], [0, 2, 2, 3], [0, 2, 2, 3], [0, 1, 3, 3], [0, 1, 3, 3], [0, 1, 2, 3], [0, 1, 2, 3]],
  [[3, 3, 3, 3], [3, 3, 3, 3], [2, 2, 2, 3], [2, 2, 2, 3], [1, 1, 3, 3], [1, 1, 3, 3], [1, 1, 2, 3], [1, 1, 2, 3], [0, 0, 0, 0], [0, 3, 3, 3], [0, 0, 0, 3], [0, 2, 2, 3], [0, 0, 3, 3], [0, 1, 3, 3], [0, 0, 2, 3], [0, 1, 2, 3]],
  [[3, 3, 3, 3], [3, 3, 3, 3], [2, 2, 2, 3], [2, 2, 2, 3], [1, 1, 1, 1], [1, 1, 3, 3], [1, 1, 1, 3], [1, 1, 2, 3], [0, 0, 0, 0], [0, 3, 3, 3], [0, 0, 0, 3], [0, 2, 2, 3], [0, 1, 0, 0], [0, 1, 3, 3], [0, 1, 0, 3], [0, 1, 2, 3]],
  [[3, 3, 3, 3], [3, 3, 3, 3], [2, 2, 2, 2], [2, 2, 2, 3], [1, 1, 1, 1], [1, 1, 3, 3], [1, 1, 2, 1], [1, 1, 2, 3], [0, 0, 0, 0], [0, 3, 3, 3], [0, 2, 2, 0], [0, 2, 2, 3], [0, 1, 0, 0], [0, 1, 3, 3], [0, 1, 2, 0], [0, 1, 2, 3]],
  [[3, 3, 3, 3], [3, 3, 3, 3], [2, 2, 2, 3], [2, 2, 2, 3], [1, 1, 3, 3], [1, 1, 3, 3], [1, 1, 2, 3], [1, 1, 2, 3], [3, 3, 3, 3], [0, 3, 3, 3], [2, 2, 2, 3], [0, 2, 2, 3], [1, 1, 3, 3], [0, 1, 3, 3], [1, 1, 2, 3], [0, 1, 2, 3]],
  [[3, 3, 3, 3], [3, 3, 3, 3], [2, 2, 2, 3], [2, 2, 2, 3], [1, 1, 3, 3], [1, 1, 3, 3], [1, 1, 2, 3], [1, 1, 2, 3], [0, 3, 3, 3], [0, 3, 3, 3], [0, 2, 2, 3], [0, 2, 2, 3], [0, 1, 3, 3], [0, 1, 3, 3], [0, 1, 2, 3], [0, 1, 2, 3]],
  [[3, 3, 3, 3], [3, 3, 3, 3], [2, 2, 2, 3], [2, 2, 2, 3], [1, 1, 1, 1], [1, 1, 3, 3], [1, 1, 1, 3], [1, 1, 2, 3], [0, 3, 3, 3], [0, 3, 3, 3], [0, 2, 2, 3], [0, 2, 2, 3], [0, 1, 1, 1], [0, 1, 3, 3], [0, 1, 1, 3], [0, 1, 2, 3]],
  [[3, 3, 3, 3], [3, 3, 3, 3], [2, 2, 2, 2], [2, 2, 2, 3], [1, 1, 1, 1], [1, 1, 3, 3], [1, 1, 2, 1], [1, 1, 2, 3], [0, 3, 3, 3], [0, 3, 3, 3], [0, 2, 2, 2], [0, 2, 2, 3], [0, 1, 1, 1], [0, 1, 3, 3], [0, 1, 2, 1], [0, 1, 2, 3]],
  [[3, 3, 3, 3], [3, 3, 3, 3], [2, 2, 2, 3], [2, 2, 2, 3], [3, 3, 3, 3], [1, 1, 3, 3], [2, 2, 2, 3], [1, 1, 2, 3], [3, 3, 3, 3], [0, 3, 3, 3], [2, 2, 2, 3], [0, 2, 2, 3], [3, 1, 3, 3], [0, 1, 3, 3], [2, 1, 2, 3], [0, 1, 2, 3]],
  [[3, 3, 3, 3], [3, 3, 3, 3], [2, 2, 2, 3], [2, 2, 2, 3], [3, 3, 3, 3], [1, 1, 3, 3], [2, 2, 2, 3], [1, 1, 2, 3], [0, 3, 3, 3], [0, 3, 3, 3], [0, 2, 2, 3], [0, 2, 2, 3], [0, 3, 3, 3], [0, 1, 3, 3], [0, 2, 2, 3], [0, 1, 2, 3]],
  [[3, 3, 3, 3], [3, 3, 3, 3], [2, 2, 2, 3], [2, 2, 2, 3], [1, 1, 3, 3], [1, 1, 3, 3], [1, 1, 2, 3], [1, 1, 2, 3], [0, 3, 3, 3], [0, 3, 3, 3], [0, 2, 2, 3], [0, 2, 2, 3], [0, 1, 3, 3], [0, 1, 3, 3], [0, 1, 2, 3], [0, 1, 2, 3]],
  [[3, 3, 3, 3], [3, 3, 3, 3], [2, 2, 2, 2], [2, 2, 2, 3], [1, 1, 3, 3], [1, 1, 3, 3], [1, 1, 2, 2], [1, 1, 2, 3], [0, 3, 3, 3], [0, 3, 3, 3], [0, 2, 2, 2], [0, 2, 2, 3], [0, 1, 3, 3], [0, 1, 3, 3], [0, 1, 2, 2], [0, 1, 2, 3]],
  [[3, 3, 3, 3], [3, 3, 3, 3], [3, 3, 3, 3], [2, 2, 2, 3], [3, 3, 3, 3], [1, 1, 3, 3], [3, 3, 2, 3], [1, 1, 2, 3], [3, 3, 3, 3], [0, 3, 3, 3], [3, 2, 2, 3], [0, 2, 2, 3], [3, 1, 3, 3], [0, 1, 3, 3], [3, 1, 2, 3], [0, 1, 2, 3]],
  [[3, 3, 3, 3], [3, 3, 3, 3], [3, 3, 3, 3], [2, 2, 2, 3], [3, 3, 3, 3], [1, 1, 3, 3], [3, 3, 2, 3], [1, 1, 2, 3], [0, 3, 3, 3], [0, 3, 3, 3], [0, 3, 3, 3], [0, 2, 2, 3], [0, 3, 3, 3], [0, 1, 3, 3], [0, 3, 2, 3], [0, 1, 2, 3]],
  [[3, 3, 3, 3], [3, 3, 3, 3], [3, 3, 3, 3], [2, 2, 2, 3], [1, 1, 3, 3], [1, 1, 3, 3], [1, 1, 3, 3], [1, 1, 2, 3], [0, 3, 3, 3], [0, 3, 3, 3], [0, 3, 3, 3], [0, 2, 2, 3], [0, 1, 3, 3], [0, 1, 3, 3], [0, 1, 3, 3], [0, 1, 2, 3]],
  [[3, 3, 3, 3], [3, 3, 3, 3], [2, 2, 2, 3], [2, 2, 2, 3], [1, 1, 3, 3], [1, 1, 3, 3], [1, 1, 2, 3], [1, 1, 2, 3], [0, 3, 3, 3], [0, 3, 3, 3], [0, 2, 2, 3], [0, 2, 2, 3], [0, 1, 3, 3], [0, 1, 3, 3], [0, 1, 2, 3], [0, 1, 2, 3]]]
noncomputable def ix (a b p q : Nat) : Nat := ((a * 3 + b) * 4 + p) * 4 + q
noncomputable def okTab (a b p q : Nat) : Bool := decide (twN (rsN a b p q 0 0) 4 = tab4.getD (ix a b p q) []) && decide (ix a b p q < tab4.length)
theorem okTab_all : ∀ a < 2, ∀ b < 3, ∀ p < 4, ∀ q < 4, okTab a b p q = true := by decide +kernel
theorem tab4_ok (a : Nat) (ha : a < 2) (b : Nat) (hb : b < 3) (p : Nat) (hp : p < 4) (q : Nat) (hq : q < 4) : twN (rsN a b p q 0 0) 4 = tab4.getD (ix a b p q) [] ∧ ix a b p q < tab4.length := by
  have h := okTab_all a ha b hb p hp q hq
  unfold okTab at h
  rw [Bool.and_eq_true, decide_eq_true_eq, decide_eq_true_eq] at h
  exact h
noncomputable def tabV : List Nat := [282943877961387, 282943940859499, 282944142186091, 282945287247531, 287067046549099, 287067109481067, 287067310790251, 287068455852651, 300261186082411, 300261248996971, 300261450344043, 300262595389035, 375302854694571, 375302917610091, 375303118939755, 375304264002219, 1408568902702699, 1408568974251627, 1408569171121771, 1408570316445291, 1413259006973547, 1413259078556335, 1413259275409003, 1413260420733615, 1426161088730731, 1426161160296043, 1426161357186667, 1426162502493803, 1501219937212011, 1501220008778415, 1501220205651563, 1501221350976175, 4786268623230571, 4786268690323051, 4786268896892523, 4786270037759595, 4790666669725291, 4790666736851563, 4790666943403627, 4790668084271723, 4804204406642283, 4804204473751147, 4804204680341179, 4804205821191867, 4878971197347435, 4878971264457323, 4878971471029947, 4878972611898043, 23926841921656491, 23926841989011051, 23926842191124075, 23926843336447659, 23931257148020331, 23931257215408815, 23931257417504363, 23931258562828975, 23944502827161195, 23944502894532203, 23944503096665787, 23944504241972923, 24019561675642539, 24019561743014575, 24019561945130683, 24019563090455295]
noncomputable def codeGo (r t : Nat) : List (List Nat) → Nat → Nat
  | [], acc => acc
  | l :: ls, acc => codeGo r t ls (acc * 16 + (cnt4 (mrg l (l.getD r 0) (l.getD t 0)) * 4 + cnt4 l))
noncomputable def isIn (c : Nat) : Bool := match c with | 0 => false | n + 1 => tabV.any (Nat.beq (n + 1))
theorem graphs_ok : ∀ e ∈ tab4, ∀ r < 4, ∀ t < 4, isIn (codeGo r t e 0) = true := by decide +kernel

theorem isIn_mem {c : Nat} (h : isIn c = true) : c ∈ tabV := by
  unfold isIn at h
  cases c with
  | zero => cases h
  | succ n =>
    obtain ⟨x, hx, e⟩ := List.any_eq_true.mp h
    rw [Nat.eq_of_beq_eq_true e]; exact hx
theorem twN_congr {rs rs' : Nat → Nat × Nat} : ∀ {k : Nat}, (∀ i < k, rs i = rs' i) → twN rs k = twN rs' k
  | 0, _ => rfl
  | k + 1, h => by
    unfold twN
    rw [twN_congr (k := k) fun i hi => h i (Nat.lt_succ_of_lt hi), h k (Nat.lt_succ_self k)]
noncomputable def codeB (ds : List Nat) : Nat := ds.foldl (fun a d => a * 4 + d) 0
theorem codeGo_eq (r t : Nat) : ∀ (ls : List (List Nat)) (acc : Nat), codeGo r t ls acc = ((ls.flatMap fun l => [mrg l (l.getD r 0) (l.getD t 0), l]).map cnt4).foldl (fun a d => a * 4 + d) acc
  | [], acc => rfl
  | l :: ls, acc => by
    unfold codeGo
    rw [codeGo_eq r t ls, List.flatMap_cons, List.map_append, List.foldl_append]
    congr 1
    show acc * 16 + _ = (acc * 4 + _) * 4 + _
    omega
theorem graph_in (a b p q r t : Nat) (ha : a < 2) (hb : b < 3) (hp : p < 4) (hq : q < 4) (hr : r < 4) (ht : t < 4) : codeB ((twN (rsN a b p q r t) 5).map cnt4) ∈ tabV := by
  have h4 : twN (rsN a b p q r t) 4 = twN (rsN a b p q 0 0) 4 := twN_congr fun i hi => by
    match i, hi with
    | 0, _ => rfl
    | 1, _ => rfl
    | 2, _ => rfl
    | 3, _ => rfl
  obtain ⟨e, hl⟩ := tab4_ok a ha b hb p hp q hq
  have hm : tab4.getD (ix a b p q) [] ∈ tab4 := by
    rw [List.getD_eq_getElem?_getD, List.getElem?_eq_getElem hl]
    exact List.getElem_mem hl
  have := isIn_mem (graphs_ok _ hm r hr t ht)
  rw [codeGo_eq, ← e, ← h4] at this
  exact this

/-! digits -/
theorem fold_lt : ∀ (ds : List Nat) (a : Nat), (∀ d ∈ ds, d < 4) → ds.foldl (fun a d => a * 4 + d) a = a * 4 ^ ds.length + codeB ds ∧ codeB ds < 4 ^ ds.length
  | [], a, _ => by simp [codeB]
  | d :: ds, a, h => by
    have hd := h d (.head _)
    have hds := fun x hx => h x (.tail _ hx)
    have h1 := fold_lt ds (a * 4 + d) hds
    have h2 := fold_lt ds (0 * 4 + d) hds
    have e : codeB (d :: ds) = d * 4 ^ ds.length + codeB ds := by
      show ds.foldl _ (0 * 4 + d) = _
      rw [h2.1]; simp
    rw [e, List.length_cons, Nat.pow_succ]
    refine ⟨?_, ?_⟩
    · rw [List.foldl_cons, h1.1, Nat.add_mul, Nat.mul_assoc, Nat.mul_comm 4 (4 ^ ds.length)]
      omega
    · have : d * 4 ^ ds.length ≤ 3 * 4 ^ ds.length := Nat.mul_le_mul_right _ (by omega)
      omega
theorem digit_of : ∀ (ds : List Nat) (i : Nat), (∀ d ∈ ds, d < 4) → i < ds.length → codeB ds / 4 ^ (ds.length - 1 - i) % 4 = ds.getD i 0
  | [], i, _, h => by simp at h
  | d :: ds, i, h, hi => by
    have hd := h d (.head _)
    have hds := fun x hx => h x (.tail _ hx)
    have h2 := fold_lt ds (0 * 4 + d) hds
    have e : codeB (d :: ds) = d * 4 ^ ds.length + codeB ds := by
      show ds.foldl _ (0 * 4 + d) = _
      rw [h2.1]; simp
    rw [e]
    cases i with
    | zero =>
      rw [List.length_cons, Nat.add_sub_cancel, Nat.sub_zero, Nat.mul_comm d, Nat.mul_add_div (Nat.pow_pos (by decide)), Nat.div_eq_of_lt h2.2]
      show (d + 0) % 4 = d
      omega
    | succ i =>
      rw [List.length_cons] at hi
      have ih := digit_of ds i hds (by omega)
      have e2 : (d :: ds).length - 1 - (i + 1) = ds.length - 1 - i := by rw [List.length_cons]; omega
      rw [e2]
      have e3 : d * 4 ^ ds.length = 4 ^ (ds.length - 1 - i) * (4 * (d * 4 ^ i)) := by
        have : ds.length = (ds.length - 1 - i) + (1 + i) := by omega
        rw [this, Nat.pow_add, Nat.pow_add, Nat.pow_one]
        have : ds.length - 1 - i + (1 + i) - 1 - i = ds.length - 1 - i := by omega
        rw [this]
        generalize 4 ^ (ds.length - 1 - i) = x
        generalize 4 ^ i = y
        rw [Nat.mul_comm d, Nat.mul_assoc, Nat.mul_assoc, Nat.mul_comm y d]
      rw [e3, Nat.mul_add_div (Nat.pow_pos (by decide)), Nat.mul_add_mod]
      exact ih
end Mine

namespace Mine
open PySem PySem.W PyProof.Rows

/-! the plain law, 2: the pieces of a graph -/
noncomputable def pcV (V : Nat) (i : Nat) : Int := ((V / 4 ^ (31 - i) % 4 : Nat) : Int) + 1
noncomputable abbrev toI (l : List Nat) : List Int := l.map Int.ofNat
theorem getD_toI (l : List Nat) (k : Nat) : (toI l).getD k 0 = Int.ofNat (l.getD k 0) := by
  rw [List.getD_eq_getElem?_getD, List.getD_eq_getElem?_getD, List.getElem?_map]
  cases l[k]? <;> rfl
theorem merge_toI (l : List Nat) (h t : Nat) : merge (toI l) (Int.ofNat h) (Int.ofNat t) = toI (mrg l h t) := by
  unfold merge mrg toI
  rw [List.map_map, List.map_map]
  refine List.map_congr_left fun x _ => ?_
  show (if Int.ofNat x == Int.ofNat t then Int.ofNat h else Int.ofNat x) = Int.ofNat (match Nat.beq x t with | true => h | false => x)
  cases e : Nat.beq x t with
  | true =>
    have := Nat.eq_of_beq_eq_true e
    subst this
    rw [if_pos (beq_self_eq_true _)]
  | false =>
    rw [if_neg]
    intro q
    have q := Int.ofNat.inj (eq_of_beq q)
    subst q
    rw [Nat.beq_refl] at e
    cases e
theorem towns_eq {rs : List (Int × Int)} {rn : Nat → Nat × Nat} (hr : ∀ k < 5, rs.getD k (0, 0) = (Int.ofNat (rn k).1, Int.ofNat (rn k).2)) : ∀ k ≤ 5, (setsOf rs k).map (·.2) = (twN rn k).map toI
  | 0, _ => rfl
  | k + 1, hk => by
    have ih := towns_eq hr k (by omega)
    unfold setsOf twN
    rw [List.map_flatMap, List.map_flatMap, hr k (by omega)]
    have e1 : ((setsOf rs k).flatMap fun p => (grow2 (Int.ofNat (rn k).1, Int.ofNat (rn k).2) k p).map (·.2)) = ((setsOf rs k).map (·.2)).flatMap fun l => [merge l (l.getD (rn k).1 0) (l.getD (rn k).2 0), l] := by
      rw [List.flatMap_map]
      rfl
    rw [e1, ih, List.flatMap_map]
    congr 1
    funext l
    rw [getD_toI, getD_toI, merge_toI]
    rfl
noncomputable def keysO : Nat → List Str
  | 0 => [""]
  | k + 1 => (keysO k).flatMap fun x => [x ++ Txt.item "ABCDE" k, x ++ Txt.item "abcde" k]
theorem keys_eq (rs : List (Int × Int)) : ∀ k, (setsOf rs k).map (·.1) = keysO k
  | 0 => rfl
  | k + 1 => by
    have ih := keys_eq rs k
    unfold setsOf keysO
    rw [List.map_flatMap, ← ih, List.flatMap_map]
    rfl
theorem keys_txt : keysO 5 = (List.range 32).map txt := by decide +kernel
theorem twN_inv {rn : Nat → Nat × Nat} : ∀ k, ∀ l ∈ twN rn k, l.length = 4 ∧ ∀ x ∈ l, x < 4
  | 0, l, h => by
    unfold twN at h
    rw [List.mem_singleton] at h
    subst h
    decide
  | k + 1, l, h => by
    unfold twN at h
    obtain ⟨q, hq, hl⟩ := List.mem_flatMap.mp h
    obtain ⟨i1, i2⟩ := twN_inv k q hq
    have hg : ∀ j, q.getD j 0 < 4 := fun j => by
      rw [List.getD_eq_getElem?_getD]
      cases e : q[j]? with
      | none => decide
      | some x => exact i2 x (List.mem_of_getElem? e)
    rcases List.mem_cons.mp hl with rfl | hl
    · refine ⟨by unfold mrg; rw [List.length_map]; exact i1, fun x hx => ?_⟩
      obtain ⟨y, hy, rfl⟩ := List.mem_map.mp hx
      cases Nat.beq y (q.getD (rn k).2 0) with
      | true => exact hg _
      | false => exact i2 y hy
    · rw [List.mem_singleton] at hl
      subst hl
      exact ⟨i1, i2⟩
theorem distinct_cnt : ∀ a < 4, ∀ b < 4, ∀ c < 4, ∀ d < 4, distinct (toI [a, b, c, d]) = cnt4 [a, b, c, d] + 1 := by decide +kernel
theorem distinct_eq {l : List Nat} (h1 : l.length = 4) (h2 : ∀ x ∈ l, x < 4) : distinct (toI l) = cnt4 l + 1 := by
  match l, h1 with
  | [a, b, c, d], _ => exact distinct_cnt a (h2 _ (by simp)) b (h2 _ (by simp)) c (h2 _ (by simp)) d (h2 _ (by simp))
theorem cnt4_lt (l : List Nat) : cnt4 l < 4 := by
  have b1 : ∀ b, b2n b ≤ 1 := fun b => by cases b <;> decide
  unfold cnt4
  split
  · rename_i a b c d
    have h1 := b1 (Nat.beq b a)
    have h2 := b1 (Nat.beq c a || Nat.beq c b)
    have h3 := b1 (Nat.beq d a || Nat.beq d b || Nat.beq d c)
    omega
  · decide
theorem pieces_go (l : List (Str × List Int)) : ∀ acc : List (Str × Int), (acc.map (·.1) ++ l.map (·.1)).Nodup → l.foldl (fun es p => if es.any (fun e => e.1 = p.1) then es.map (fun e => if e.1 = p.1 then (e.1, (distinct p.2 : Int)) else e) else es ++ [(p.1, (distinct p.2 : Int))]) acc = acc ++ l.map fun p => (p.1, (distinct p.2 : Int)) := by
  induction l with
  | nil => intro acc _; simp
  | cons p l ih =>
    intro acc h
    rw [List.foldl_cons, if_neg, ih]
    · simp
    · rw [List.map_append, List.append_assoc]; exact h
    · rw [List.any_eq_true]
      rintro ⟨e, he, hk⟩
      rw [List.map_cons, List.nodup_append] at h
      exact h.2.2 e.1 (List.mem_map.mpr ⟨e, he, rfl⟩) p.1 (.head _) (of_decide_eq_true hk)
theorem pieces_map (rs : List (Int × Int)) : piecesOf rs = (setsOf rs 5).map fun p => (p.1, (distinct p.2 : Int)) := by
  unfold piecesOf
  rw [pieces_go]
  · rfl
  · rw [keys_eq, keys_txt]
    exact keys_nodup List.nodup_range fun m hm => List.mem_range.mp hm
theorem zip_map {A : List (Str × List Int)} : (A.map fun p => (p.1, (distinct p.2 : Int))) = List.zipWith (fun k v => (k, (distinct v : Int))) (A.map (·.1)) (A.map (·.2)) := by
  induction A with
  | nil => rfl
  | cons p A ih => rw [List.map_cons, List.map_cons, List.map_cons, List.zipWith_cons_cons, ih]
theorem pieces_vec (n0 n1 n2 n3 n4 : Int) : ∃ V ∈ tabV, piecesOf (roads n0 n1 n2 n3 n4) = (List.range 32).map fun i => (txt i, pcV V i) := by
  have bd : ∀ (n m : Int), 0 < m → 0 ≤ n.fmod m ∧ n.fmod m < m := fun n m h => ⟨Int.fmod_nonneg_of_pos n h, Int.fmod_lt_of_pos n h⟩
  have h0 := bd n0 1 (by decide)
  have h1 := bd n1 2 (by decide)
  have h2 := bd n2 3 (by decide)
  have h3 := bd n3 4 (by decide)
  have h3' := bd (n3.fdiv 4) 4 (by decide)
  have h4 := bd n4 4 (by decide)
  have h4' := bd (n4.fdiv 4) 4 (by decide)
  have hin := graph_in (n1.fmod 2).toNat (n2.fmod 3).toNat (n3.fmod 4).toNat ((n3.fdiv 4).fmod 4).toNat (n4.fmod 4).toNat ((n4.fdiv 4).fmod 4).toNat (by omega) (by omega) (by omega) (by omega) (by omega) (by omega)
  refine ⟨_, hin, ?_⟩
  have hr : ∀ k < 5, (roads n0 n1 n2 n3 n4).getD k (0, 0) = (Int.ofNat (rsN (n1.fmod 2).toNat (n2.fmod 3).toNat (n3.fmod 4).toNat ((n3.fdiv 4).fmod 4).toNat (n4.fmod 4).toNat ((n4.fdiv 4).fmod 4).toNat k).1, Int.ofNat (rsN (n1.fmod 2).toNat (n2.fmod 3).toNat (n3.fmod 4).toNat ((n3.fdiv 4).fmod 4).toNat (n4.fmod 4).toNat ((n4.fdiv 4).fmod 4).toNat k).2) := by
    intro k hk
    match k, hk with
    | 0, _ => show ((1 : Int), n0.fmod 1) = ((1 : Int), (0 : Int)); rw [show n0.fmod 1 = 0 by omega]
    | 1, _ => show ((2 : Int), n1.fmod 2) = ((2 : Int), ((n1.fmod 2).toNat : Int)); rw [Int.toNat_of_nonneg h1.1]
    | 2, _ => show ((3 : Int), n2.fmod 3) = ((3 : Int), ((n2.fmod 3).toNat : Int)); rw [Int.toNat_of_nonneg h2.1]
    | 3, _ => show (n3.fmod 4, (n3.fdiv 4).fmod 4) = (((n3.fmod 4).toNat : Int), (((n3.fdiv 4).fmod 4).toNat : Int)); rw [Int.toNat_of_nonneg h3.1, Int.toNat_of_nonneg h3'.1]
    | 4, _ => show (n4.fmod 4, (n4.fdiv 4).fmod 4) = (((n4.fmod 4).toNat : Int), (((n4.fdiv 4).fmod 4).toNat : Int)); rw [Int.toNat_of_nonneg h4.1, Int.toNat_of_nonneg h4'.1]
  generalize hcode : codeB ((twN (rsN (n1.fmod 2).toNat (n2.fmod 3).toNat (n3.fmod 4).toNat ((n3.fdiv 4).fmod 4).toNat (n4.fmod 4).toNat ((n4.fdiv 4).fmod 4).toNat) 5).map cnt4) = V at hin ⊢
  have ht := towns_eq hr 5 (Nat.le_refl _)
  have hk := keys_eq (roads n0 n1 n2 n3 n4) 5
  rw [keys_txt] at hk
  generalize rsN (n1.fmod 2).toNat (n2.fmod 3).toNat (n3.fmod 4).toNat ((n3.fdiv 4).fmod 4).toNat (n4.fmod 4).toNat ((n4.fdiv 4).fmod 4).toNat = rn at ht hcode
  have hz := setsOf_len (roads n0 n1 n2 n3 n4) 5
  have hz2 : (twN rn 5).length = 32 := by
    have := congrArg List.length ht
    rw [List.length_map, List.length_map] at this
    omega
  rw [pieces_map, zip_map, hk, ht]
  refine List.ext_getElem (by rw [List.length_zipWith, List.length_map, List.length_map, List.length_map, hz2, List.length_range]; decide) fun i g1 g2 => ?_
  have hi : i < 32 := by rw [List.length_map, List.length_range] at g2; exact g2
  have hi2 : i < (twN rn 5).length := by omega
  obtain ⟨q1, q2⟩ := twN_inv 5 _ (List.getElem_mem hi2)
  have dg := digit_of ((twN rn 5).map cnt4) i (fun d hd => by obtain ⟨l, _, rfl⟩ := List.mem_map.mp hd; exact cnt4_lt l) (by rw [List.length_map, hz2]; exact hi)
  rw [List.length_map, hz2, List.getD_eq_getElem?_getD, List.getElem?_map, List.getElem?_eq_getElem hi2] at dg
  have dg : codeB ((twN rn 5).map cnt4) / 4 ^ (31 - i) % 4 = cnt4 (twN rn 5)[i] := dg
  rw [List.getElem_zipWith, List.getElem_map, List.getElem_map, List.getElem_map, List.getElem_range, distinct_eq q1 q2]
  unfold pcV
  rw [← hcode, dg]
  simp
end Mine

namespace Mine
open PySem PySem.W PyProof.Rows

/-! the plain law, 3: each graph under each order -/
/-- a code of pieces; its trees, with what may be exchanged; all sets with their pieces, as one number; the trees' keys -/
noncomputable def tabT : List (Nat × List (Nat × List Nat) × Nat × List Nat) := [
  (282943877961387, [(3, [24, 768, 24576, 229376, 7340032]), (5, [4, 128, 11264, 655360, 8388608]), (6, [4, 128, 19456, 524288, 12582912]), (9, [2, 416, 2048, 589824, 8388608]), (10, [2, 672, 2048, 524288, 10485760]), (17, [14, 32, 1024, 557056, 8388608]), (18, [22, 32, 1024, 524288, 9437184])], 7251195784344987241288177511127895076902248388210818150430172799190048047618, [27, 18, 19, 9, 10, 1, 2]),
  (282943940859499, [(3, [8, 768, 24576, 229376, 6291456]), (5, [20, 128, 11264, 655360, 9437184]), (6, [8, 128, 18432, 557056, 12582912]), (9, [18, 416, 2048, 589824, 9437184]), (10, [8, 640, 2048, 557056, 10485760]), (17, [14, 544, 17408, 32768, 6291456]), (20, [24, 128, 18432, 32768, 5242880]), (24, [24, 640, 2048, 32768, 3145728])], 7251195676505200560131414858763514527980738072085821034067151243258684899842, [27, 18, 18, 9, 10, 1, 10, 2]),
  (282944142186091, [(3, [16, 768, 24576, 196608, 7340032]), (5, [16, 128, 10240, 655360, 9437184]), (6, [12, 128, 19456, 557056, 12582912]), (9, [16, 384, 2048, 589824, 9437184]), (10, [10, 672, 2048, 557056, 10485760]), (18, [22, 288, 9216, 196608, 1048576]), (20, [24, 128, 10240, 163840, 1048576]), (24, [24, 384, 2048, 98304, 1048576])], 7251195676505200560131414858763470100714912874360031255878404951600997204482, [27, 18, 18, 10, 9, 1, 10, 2]),
  (282945287247531, [(3, [0, 768, 24576, 196608, 6291456]), (5, [0, 128, 10240, 655360, 8388608]), (6, [0, 128, 18432, 524288, 12582912]), (9, [0, 384, 2048, 589824, 8388608]), (10, [0, 640, 2048, 524288, 10485760])], 7251195784344987241288177511127939853297782046819471442041266315841920696834, [27, 18, 19, 10, 11]),
  (287067046549099, [(3, [24, 256, 24576, 229376, 5242880]), (5, [4, 640, 11264, 655360, 10485760]), (6, [4, 256, 17408, 589824, 12582912]), (9, [18, 416, 18432, 65536, 5242880]), (12, [4, 768, 17408, 65536, 6291456]), (17, [14, 544, 1024, 557056, 10485760]), (18, [20, 256, 1024, 589824, 9437184]), (24, [20, 768, 1024, 65536, 3145728])], 7251195676505200560131414861686473201152146847088453720886282539918799536642, [27, 18, 18, 9, 10, 1, 10, 2]),
  (287067109481067, [(3, [8, 256, 24576, 229376, 4194304]), (5, [20, 640, 11264, 655360, 11534336]), (6, [8, 256, 16384, 622592, 12582912]), (9, [2, 416, 18432, 65536, 4194304]), (12, [2, 800, 16384, 65536, 6291456]), (17, [14, 32, 17408, 32768, 4194304]), (20, [26, 32, 16384, 32768, 5242880])], 7251195676506846077242939535579031024834874268847682694960606266121364046338, [27, 18, 19, 9, 10, 1, 2]),
  (287067310790251, [(3, [16, 256, 24576, 196608, 5242880]), (5, [16, 640, 10240, 655360, 11534336]), (6, [12, 256, 17408, 622592, 12582912]), (9, [16, 384, 18432, 65536, 5242880]), (12, [6, 800, 17408, 65536, 6291456]), (18, [20, 256, 9216, 196608, 1048576]), (20, [26, 160, 10240, 163840, 1048576]), (24, [20, 384, 3072, 65536, 1048576])], 7251195676505200560131414858763470100714912874201577348701515505672258716162, [27, 18, 18, 10, 9, 10, 1, 2]),
  (287068455852651, [(3, [0, 256, 24576, 196608, 4194304]), (5, [0, 640, 10240, 655360, 10485760]), (6, [0, 256, 16384, 589824, 12582912]), (9, [0, 384, 18432, 65536, 4194304]), (12, [0, 768, 16384, 65536, 6291456])], 7251195676506846077242939538502034474401816702617422580567720525362089820674, [27, 18, 19, 10, 11]),
  (300261186082411, [(3, [24, 512, 24576, 163840, 7340032]), (5, [4, 512, 9216, 655360, 10485760]), (6, [4, 384, 19456, 589824, 12582912]), (10, [10, 672, 10240, 163840, 2097152]), (12, [4, 768, 9216, 196608, 2097152]), (17, [12, 512, 1024, 557056, 10485760]), (18, [22, 288, 1024, 589824, 9437184]), (24, [12, 768, 1024, 98304, 2097152])], 7251195676505200560131414861686473201152146847088451312479376276399740551682, [27, 18, 18, 9, 10, 10, 1, 2]),
  (300261248996971, [(3, [8, 512, 24576, 163840, 6291456]), (5, [20, 512, 9216, 655360, 11534336]), (6, [8, 384, 18432, 622592, 12582912]), (10, [8, 640, 10240, 163840, 2097152]), (12, [6, 800, 9216, 196608, 2097152]), (17, [12, 512, 17408, 32768, 6291456]), (20, [26, 160, 18432, 32768, 5242880]), (24, [12, 640, 3072, 32768, 2097152])], 7251195676505200560131414858763514527980738071927364718483355533810887426562, [27, 18, 18, 10, 9, 10, 1, 2]),
  (300261450344043, [(3, [16, 512, 24576, 131072, 7340032]), (5, [16, 512, 8192, 655360, 11534336]), (6, [12, 384, 19456, 622592, 12582912]), (10, [2, 672, 10240, 131072, 2097152]), (12, [2, 800, 8192, 196608, 2097152]), (18, [22, 32, 9216, 131072, 1048576]), (20, [26, 32, 8192, 163840, 1048576])], 7251195676505207000437795365497933796234861085267317861311295262252609962498, [27, 19, 18, 9, 10, 1, 2]),
  (300262595389035, [(3, [0, 512, 24576, 131072, 6291456]), (5, [0, 512, 8192, 655360, 10485760]), (6, [0, 384, 18432, 589824, 12582912]), (10, [0, 640, 10240, 131072, 2097152]), (12, [0, 768, 8192, 196608, 2097152])], 7251195676505207000437795368420981673067628716762847525107155813151023432194, [27, 19, 18, 10, 11]),
  (375302854694571, [(3, [24, 0, 24576, 163840, 5242880]), (5, [4, 0, 9216, 655360, 8388608]), (6, [4, 0, 17408, 524288, 12582912]), (17, [12, 0, 1024, 557056, 8388608]), (18, [20, 0, 1024, 524288, 9437184])], 7251195784344987241288177511127895076902248388210820577763438482335106990594, [27, 18, 19, 10, 11]),
  (375302917610091, [(3, [8, 0, 24576, 163840, 4194304]), (5, [20, 0, 9216, 655360, 9437184]), (6, [8, 0, 16384, 557056, 12582912]), (17, [12, 0, 17408, 32768, 4194304]), (20, [24, 0, 16384, 32768, 5242880])], 7251195676506846077242939535579031024834874269006139029470761395195161477634, [27, 18, 19, 10, 11]),
  (375303118939755, [(3, [16, 0, 24576, 131072, 5242880]), (5, [16, 0, 8192, 655360, 9437184]), (6, [12, 0, 17408, 557056, 12582912]), (18, [20, 0, 9216, 131072, 1048576]), (20, [24, 0, 8192, 163840, 1048576])], 7251195676505207000437795365497933796234861085425776604228356654845466378754, [27, 19, 18, 10, 11]),
  (375304264002219, [(3, [0, 0, 24576, 131072, 4194304]), (5, [0, 0, 8192, 655360, 8388608]), (6, [0, 0, 16384, 524288, 12582912])], 7251195784346639198706082694677920045671866454805532358461562487877807505922, [27, 19, 20]),
  (1408568902702699, [(3, [24, 768, 8192, 229376, 3145728]), (5, [20, 640, 11264, 131072, 3145728]), (9, [2, 416, 18432, 589824, 12582912]), (10, [2, 544, 8192, 655360, 10485760]), (12, [2, 544, 24576, 131072, 6291456]), (17, [14, 32, 17408, 557056, 12582912]), (18, [18, 32, 8192, 655360, 9437184]), (20, [18, 32, 24576, 131072, 5242880])], 7251195676505200572685618329536831454161919857096414469806788723226607485442, [27, 18, 9, 18, 10, 1, 10, 2]),
  (1408568974251627, [(3, [8, 768, 8192, 229376, 2097152]), (5, [4, 640, 11264, 131072, 2097152]), (9, [18, 416, 18432, 589824, 13631488]), (10, [8, 512, 8192, 688128, 10485760]), (12, [4, 512, 25600, 131072, 6291456]), (17, [14, 544, 1024, 32768, 2097152]), (24, [28, 512, 1024, 32768, 3145728])], 7251195676505200560131797985571734274857133495091521951767093855113961406978, [27, 18, 9, 19, 10, 1, 2]),
  (1408569171121771, [(3, [16, 768, 8192, 196608, 3145728]), (5, [16, 640, 10240, 131072, 3145728]), (9, [16, 384, 18432, 589824, 13631488]), (10, [10, 544, 8192, 688128, 10485760]), (12, [6, 544, 25600, 131072, 6291456]), (18, [18, 288, 8192, 196608, 1048576]), (20, [18, 160, 10240, 131072, 1048576]), (24, [28, 384, 3072, 98304, 1048576])], 7251195676505200560131414858763470100714912874201574930849876839363862725122, [27, 18, 10, 18, 9, 10, 1, 2]),
  (1408570316445291, [(3, [0, 768, 8192, 196608, 2097152]), (5, [0, 640, 10240, 131072, 2097152]), (9, [0, 384, 18432, 589824, 12582912]), (10, [0, 512, 8192, 655360, 10485760]), (12, [0, 512, 24576, 131072, 6291456])], 7251195676505200572686001456345095977433848938869225004146352963970891121154, [27, 18, 10, 19, 11]),
  (1413259006973547, [(3, [24, 256, 8192, 229376, 1048576]), (5, [20, 128, 11264, 131072, 1048576]), (9, [18, 416, 2048, 65536, 1048576]), (17, [14, 544, 17408, 557056, 14680064]), (18, [16, 256, 8192, 720896, 9437184]), (20, [16, 128, 26624, 131072, 5242880]), (24, [16, 896, 2048, 65536, 3145728])], 7251195676505200560131414858763469926490361780026974519792759860729292653058, [27, 18, 9, 1, 19, 10, 2]),
  (1413259078556335, [(3, [8, 256, 8192, 229376, 0]), (5, [4, 128, 11264, 131072, 0]), (9, [2, 416, 2048, 65536, 0]), (17, [14, 32, 1024, 32768, 0])], 7265330560864859820482548221061254467916433027081313043855383124360915190274, [28, 19, 10, 2]),
  (1413259275409003, [(3, [16, 256, 8192, 196608, 1048576]), (5, [16, 128, 10240, 131072, 1048576]), (9, [16, 384, 2048, 65536, 1048576]), (18, [16, 256, 8192, 196608, 1048576]), (20, [16, 128, 10240, 131072, 1048576]), (24, [16, 384, 2048, 65536, 1048576])], 7251195676505200560131414858763470100714933643547467813040558865794616918530, [27, 18, 10, 19, 10, 2]),
  (1413260420733615, [(3, [0, 256, 8192, 196608, 0]), (5, [0, 128, 10240, 131072, 0]), (9, [0, 384, 2048, 65536, 0])], 7265330560864859820482548221061254642821569624443683264029931344289775878658, [28, 19, 11]),
  (1426161088730731, [(3, [24, 512, 8192, 163840, 3145728]), (5, [20, 512, 9216, 131072, 3145728]), (10, [10, 544, 8192, 163840, 2097152]), (12, [6, 544, 9216, 131072, 2097152]), (17, [12, 512, 17408, 557056, 14680064]), (18, [18, 288, 8192, 720896, 9437184]), (20, [18, 160, 26624, 131072, 5242880]), (24, [12, 896, 3072, 98304, 2097152])], 7251195676505200560131414858763469926490341010681081647046810800037828887042, [27, 18, 18, 9, 10, 10, 1, 2]),
  (1426161160296043, [(3, [8, 512, 8192, 163840, 2097152]), (5, [4, 512, 9216, 131072, 2097152]), (10, [8, 512, 8192, 163840, 2097152]), (12, [4, 512, 9216, 131072, 2097152]), (17, [12, 512, 1024, 32768, 2097152]), (24, [12, 512, 1024, 32768, 2097152])], 7251195676505200560131797985571734274857133495091521961211826820853251834370, [27, 18, 19, 10, 10, 2]),
  (1426161357186667, [(3, [16, 512, 8192, 131072, 3145728]), (5, [16, 512, 8192, 131072, 3145728]), (10, [2, 544, 8192, 131072, 2097152]), (12, [2, 544, 8192, 131072, 2097152]), (18, [18, 32, 8192, 131072, 1048576]), (20, [18, 32, 8192, 131072, 1048576])], 7251195676505207000437795365497933796234861085267317861311295825202563383810, [27, 19, 18, 10, 10, 2]),
  (1426162502493803, [(3, [0, 512, 8192, 131072, 2097152]), (5, [0, 512, 8192, 131072, 2097152]), (10, [0, 512, 8192, 131072, 2097152]), (12, [0, 512, 8192, 131072, 2097152])], 7251195676505207000438178492306198145282218303519635102403061060881522754050, [27, 19, 19, 11]),
  (1501219937212011, [(3, [24, 0, 8192, 163840, 1048576]), (5, [20, 0, 9216, 131072, 1048576]), (17, [12, 0, 17408, 557056, 12582912]), (18, [16, 0, 8192, 655360, 9437184]), (20, [16, 0, 24576, 131072, 5242880])], 7251195676505200572685618329536831454161940626442307361479097203544071209474, [27, 18, 10, 19, 11]),
  (1501220008778415, [(3, [8, 0, 8192, 163840, 0]), (5, [4, 0, 9216, 131072, 0]), (17, [12, 0, 1024, 32768, 0])], 7265330560864859820482548221061254467916433027081313053337009578247624720898, [28, 19, 11]),
  (1501220205651563, [(3, [16, 0, 8192, 131072, 1048576]), (5, [16, 0, 8192, 131072, 1048576]), (18, [16, 0, 8192, 131072, 1048576]), (20, [16, 0, 8192, 131072, 1048576])], 7251195676505207000437795365497933796234881854613210743538871339780736680450, [27, 19, 19, 11]),
  (1501221350976175, [(3, [0, 0, 8192, 131072, 0]), (5, [0, 0, 8192, 131072, 0])], 7265330560864866273343132198569079866013096681924759026732954707203964666370, [28, 20]),
  (4786268623230571, [(3, [24, 768, 16384, 98304, 7340032]), (6, [12, 384, 19456, 98304, 4194304]), (9, [2, 288, 16384, 589824, 12582912]), (10, [2, 672, 10240, 655360, 10485760]), (12, [2, 288, 24576, 196608, 4194304]), (17, [10, 32, 16384, 557056, 12582912]), (18, [22, 32, 9216, 655360, 9437184]), (20, [10, 32, 24576, 163840, 4194304])], 7251195676505200572685618329536831454161919857096414469806788162475677319682, [27, 18, 18, 9, 10, 10, 1, 2]),
  (4786268690323051, [(3, [8, 768, 16384, 98304, 6291456]), (6, [8, 384, 18432, 98304, 4194304]), (9, [18, 288, 16384, 589824, 13631488]), (10, [8, 640, 10240, 688128, 10485760]), (12, [6, 288, 25600, 196608, 4194304]), (17, [10, 544, 16384, 32768, 6291456]), (20, [10, 160, 18432, 32768, 4194304]), (24, [28, 640, 3072, 32768, 3145728])], 7251195676505200560131414858763514527980738071927364709038622570270620254722, [27, 18, 18, 10, 9, 10, 1, 2]),
  (4786268896892523, [(3, [16, 768, 16384, 65536, 7340032]), (6, [4, 384, 19456, 65536, 4194304]), (9, [16, 256, 16384, 589824, 13631488]), (10, [10, 672, 10240, 688128, 10485760]), (12, [4, 256, 25600, 196608, 4194304]), (18, [22, 288, 1024, 65536, 1048576]), (24, [28, 256, 1024, 98304, 1048576])], 7251195676505200560131416358264150002221306951182213297756254445599721652738, [27, 18, 19, 9, 10, 1, 2]),
  (4786270037759595, [(3, [0, 768, 16384, 65536, 6291456]), (6, [0, 384, 18432, 65536, 4194304]), (9, [0, 256, 16384, 589824, 12582912]), (10, [0, 640, 10240, 655360, 10485760]), (12, [0, 256, 24576, 196608, 4194304])], 7251195676505200572685619829037556132063847592685706128324259846114339062274, [27, 18, 19, 10, 11]),
  (4790666669725291, [(3, [24, 256, 16384, 98304, 5242880]), (6, [12, 256, 17408, 98304, 4194304]), (9, [18, 288, 16384, 65536, 5242880]), (12, [6, 288, 17408, 65536, 4194304]), (17, [10, 544, 16384, 557056, 14680064]), (18, [20, 256, 9216, 720896, 9437184]), (20, [10, 160, 26624, 163840, 4194304]), (24, [20, 896, 3072, 65536, 3145728])], 7251195676505200560131414858763469926490341010681084055453716502805957706242, [27, 18, 18, 9, 10, 10, 1, 2]),
  (4790666736851563, [(3, [8, 256, 16384, 98304, 4194304]), (6, [8, 256, 16384, 98304, 4194304]), (9, [2, 288, 16384, 65536, 4194304]), (12, [2, 288, 16384, 65536, 4194304]), (17, [10, 32, 16384, 32768, 4194304]), (20, [10, 32, 16384, 32768, 4194304])], 7251195676506846077242939535579031024834874268847682694960606268320387301890, [27, 19, 18, 10, 10, 2]),
  (4790666943403627, [(3, [16, 256, 16384, 65536, 5242880]), (6, [4, 256, 17408, 65536, 4194304]), (9, [16, 256, 16384, 65536, 5242880]), (12, [4, 256, 17408, 65536, 4194304]), (18, [20, 256, 1024, 65536, 1048576]), (24, [20, 256, 1024, 65536, 1048576])], 7251195676505200560131416358264150002221306951182215715607893674858071065090, [27, 18, 19, 10, 10, 2]),
  (4790668084271723, [(3, [0, 256, 16384, 65536, 4194304]), (6, [0, 256, 16384, 65536, 4194304]), (9, [0, 256, 16384, 65536, 4194304]), (12, [0, 256, 16384, 65536, 4194304])], 7251195676506846077242941035079711101246404943190691282041532655236037083650, [27, 19, 19, 11]),
  (4804204406642283, [(3, [24, 512, 16384, 32768, 7340032]), (6, [12, 128, 19456, 32768, 4194304]), (10, [10, 672, 2048, 32768, 2097152]), (17, [8, 512, 16384, 557056, 14680064]), (18, [22, 288, 9216, 720896, 9437184]), (20, [8, 128, 26624, 163840, 4194304]), (24, [8, 896, 2048, 98304, 2097152])], 7251195676505200560131414858763469926490341091969176386682020610262991766018, [27, 18, 9, 19, 1, 10, 2]),
  (4804204473751147, [(3, [8, 512, 16384, 32768, 6291456]), (6, [8, 128, 18432, 32768, 4194304]), (10, [8, 640, 2048, 32768, 2097152]), (17, [8, 512, 16384, 32768, 6291456]), (20, [8, 128, 18432, 32768, 4194304]), (24, [8, 640, 2048, 32768, 2097152])], 7251195676505200560131414858763514527980738153215459458118565906986003726850, [27, 18, 10, 19, 10, 2]),
  (4804204680341179, [(3, [16, 512, 16384, 0, 7340032]), (6, [4, 128, 19456, 0, 4194304]), (10, [2, 672, 2048, 0, 2097152]), (18, [22, 32, 1024, 0, 1048576])], 7251250998315767993550655521713572262023397546956406021107615027022746747394, [28, 19, 10, 2]),
  (4804205821191867, [(3, [0, 512, 16384, 0, 6291456]), (6, [0, 128, 18432, 0, 4194304]), (10, [0, 640, 2048, 0, 2097152])], 7251250998315767993550655521713616864194359342044566019470909538609295131138, [28, 19, 11]),
  (4878971197347435, [(3, [24, 0, 16384, 32768, 5242880]), (6, [12, 0, 17408, 32768, 4194304]), (17, [8, 0, 16384, 557056, 12582912]), (18, [20, 0, 9216, 655360, 9437184]), (20, [8, 0, 24576, 163840, 4194304])], 7251195676505200572685618329536831454161919938384511636775264216596829307394, [27, 18, 19, 10, 11]),
  (4878971264457323, [(3, [8, 0, 16384, 32768, 4194304]), (6, [8, 0, 16384, 32768, 4194304]), (17, [8, 0, 16384, 32768, 4194304]), (20, [8, 0, 16384, 32768, 4194304])], 7251195676506846077242939535579031024834874350135777444077443093183189877250, [27, 19, 19, 11]),
  (4878971471029947, [(3, [16, 0, 16384, 0, 5242880]), (6, [4, 0, 17408, 0, 4194304]), (18, [20, 0, 1024, 0, 1048576])], 7251250998315767993550655521713572262023397546956408438996147744428515262978, [28, 19, 11]),
  (4878972611898043, [(3, [0, 0, 16384, 0, 4194304]), (6, [0, 0, 16384, 0, 4194304])], 7251250998317413523216383669302494888720074385380216837634497613734550307330, [28, 20]),
  (23926841921656491, [(3, [24, 768, 0, 98304, 3145728]), (9, [2, 288, 0, 589824, 8388608]), (10, [2, 544, 0, 524288, 10485760]), (17, [10, 32, 0, 557056, 8388608]), (18, [18, 32, 0, 524288, 9437184])], 7251195784344987241288177511127895076902248388210818150430173364347614659074, [27, 18, 19, 10, 11]),
  (23926841989011051, [(3, [8, 768, 0, 98304, 2097152]), (9, [18, 288, 0, 589824, 9437184]), (10, [8, 512, 0, 557056, 10485760]), (17, [10, 544, 0, 32768, 2097152]), (24, [24, 512, 0, 32768, 3145728])], 7251195676505200560131797985571734274857133495249978276795622532508662497794, [27, 18, 19, 10, 11]),
  (23926842191124075, [(3, [16, 768, 0, 65536, 3145728]), (9, [16, 256, 0, 589824, 9437184]), (10, [10, 544, 0, 557056, 10485760]), (18, [18, 288, 0, 65536, 1048576]), (24, [24, 256, 0, 98304, 1048576])], 7251195676505200560131416358264150002221306951340669622784783683745352909314, [27, 19, 18, 10, 11]),
  (23926843336447659, [(3, [0, 768, 0, 65536, 2097152]), (9, [0, 256, 0, 589824, 8388608]), (10, [0, 512, 0, 524288, 10485760])], 7251195784344987241288562137436839501680571546964267051676115772078687388162, [27, 19, 20]),
  (23931257148020331, [(3, [24, 256, 0, 98304, 1048576]), (9, [18, 288, 0, 65536, 1048576]), (17, [10, 544, 0, 557056, 10485760]), (18, [16, 256, 0, 589824, 9437184]), (24, [16, 768, 0, 65536, 3145728])], 7251195676505200560131414861686473201152167616434344185225325902248770929154, [27, 18, 10, 19, 11]),
  (23931257215408815, [(3, [8, 256, 0, 98304, 0]), (9, [2, 288, 0, 65536, 0]), (17, [10, 32, 0, 32768, 0])], 7265330560864859820482548221061254467916433027081313043855383126568528380418, [28, 19, 11]),
  (23931257417504363, [(3, [16, 256, 0, 65536, 1048576]), (9, [16, 256, 0, 65536, 1048576]), (18, [16, 256, 0, 65536, 1048576]), (24, [16, 256, 0, 65536, 1048576])], 7251195676505200560131416358264150002221327720528106179946937034989019202050, [27, 19, 19, 11]),
  (23931258562828975, [(3, [0, 256, 0, 65536, 0]), (9, [0, 256, 0, 65536, 0])], 7265330560864859820482549723484937818989769537831691296368875552796043248130, [28, 20]),
  (23944502827161195, [(3, [24, 512, 0, 32768, 3145728]), (10, [10, 544, 0, 32768, 2097152]), (17, [8, 512, 0, 557056, 10485760]), (18, [18, 288, 0, 589824, 9437184]), (24, [8, 768, 0, 98304, 2097152])], 7251195676505200560131414861686473201152146928376546052114587212533400207874, [27, 18, 19, 10, 11]),
  (23944502894532203, [(3, [8, 512, 0, 32768, 2097152]), (10, [8, 512, 0, 32768, 2097152]), (17, [8, 512, 0, 32768, 2097152]), (24, [8, 512, 0, 32768, 2097152])], 7251195676505200560131797985571734274857133576379616700847037194036958069250, [27, 19, 19, 11]),
  (23944503096665787, [(3, [16, 512, 0, 0, 3145728]), (10, [2, 544, 0, 0, 2097152]), (18, [18, 32, 0, 0, 1048576])], 7251250998315767993550655521713572262023397546956406021107615589981290103298, [28, 19, 11]),
  (23944504241972923, [(3, [0, 512, 0, 0, 2097152]), (10, [0, 512, 0, 0, 2097152])], 7251250998315767993551038651444839885732560601616092927631946864972114559490, [28, 20]),
  (24019561675642539, [(3, [24, 0, 0, 32768, 1048576]), (17, [8, 0, 0, 557056, 8388608]), (18, [16, 0, 0, 524288, 9437184])], 7251195784344987241288177511127895076902269238844805781737692215641171427842, [27, 19, 20]),
  (24019561743014575, [(3, [8, 0, 0, 32768, 0]), (17, [8, 0, 0, 32768, 0])], 7265330560864859820482548221061254467916433108527864118000748626618418856450, [28, 20]),
  (24019561945130683, [(3, [16, 0, 0, 0, 1048576]), (18, [16, 0, 0, 0, 1048576])], 7251250998315767993550655521713572262023418316460755228363719779746551300610, [28, 20]),
  (24019563090455295, [(3, [0, 0, 0, 0, 0])], 7265385990515213935058551536375781954541961674728250867152659110896085369346, [29])]
/-- the orders: the bit 5 * i + j is set where j goes ahead of i -/
noncomputable def tabO : List Nat := [15961120, 8096800, 3918880, 15838240, 11660320, 3796000, 1822240, 1699360, 15772960, 11595040, 9498400, 1634080, 15959200, 8094880, 5998240, 1820320, 15893920, 15771040, 13797280, 5932960, 1755040, 13674400, 9496480, 773680, 650800, 585520, 771760, 706480, 15740200, 11562280, 9465640, 15738280, 13641640, 8417080, 552760, 8415160, 15958180, 8093860, 5997220, 15892900, 13796260, 4948660, 770740, 4883380, 15860140, 15737260, 13763500, 12714940, 4850620, 672700, 12592060, 8414140, 15961090, 8096770, 3918850, 15838210, 11660290, 2870290, 2747410, 773650, 15805450, 11627530, 15740170, 10578970, 2714650, 618010, 10513690, 8417050, 15960070, 8095750, 15958150, 7047190, 2869270, 772630, 7045270, 4948630, 15927310, 15804430, 15739150, 15925390, 15860110, 14878750, 7014430, 2836510, 14755870, 10577950, 739870, 14690590, 8416030, 14876830, 4915870, 14811550, 12714910]
noncomputable def goT {α : Type} (o m : Nat) (kont : Nat → Nat → α) (es : List Nat) (c M k : Nat) : α :=
  @List.rec Nat (fun _ => Nat → Nat → Nat → α) (fun _ M k => kont M k)
    (fun e _ ih c M k => @Nat.rec (fun _ => α) (@Nat.rec (fun _ => α) (ih (Nat.div c 2) (Nat.lor M (Nat.shiftLeft M (Nat.succ (Nat.mul 8 c)))) (Nat.add k 9)) (fun _ _ => ih (Nat.div c 2) (Nat.lor M (Nat.shiftRight M (Nat.mul 8 c))) (Nat.add k 1)) (Nat.land m c)) (fun _ _ => ih (Nat.div c 2) M k) (Nat.land e o)) es c M k
noncomputable def goL (o F : Nat) (K : List Nat) (TX : List (Nat × List Nat)) (A N : Nat) (ks : List Nat) : Bool :=
  @List.rec (Nat × List Nat) (fun _ => Nat → Nat → List Nat → Bool) (fun A N ks => Nat.beq A F && Nat.beq N 32 && ks.isPerm K)
    (fun x _ ih A N ks => goT o x.1 (fun M k => ih (Nat.lor A M) (Nat.add N (Nat.pow 2 (Nat.mod k 8))) (k :: ks)) x.2 16 (Nat.shiftLeft 1 (Nat.succ (Nat.mul 8 x.1))) 0) TX A N ks
theorem all_ok : ∀ e ∈ tabT, ∀ o ∈ tabO, goL o e.2.2.1 e.2.2.2 e.2.1 0 0 [] = true := by decide +kernel
theorem tabT_V : tabT.map (·.1) = tabV := by decide +kernel
end Mine

namespace Mine
open PySem PySem.W PyProof.Rows

/-! the plain law, 4: what the check of a graph under an order says -/
noncomputable def firmR (o m : Nat) : List Nat → Nat → List Nat
  | [], _ => []
  | e :: es, k => if e &&& o = 0 then sgn m k :: firmR o m es (k + 1) else firmR o m es (k + 1)
noncomputable def keyF (fl : List Nat) : Nat := 8 * (fl.filter fun n => decide (n < 97)).length + fl.length
theorem bit_or : ∀ x < 32, ∀ k < 5, x.testBit (4 - k) = false → x ||| 2 ^ (4 - k) = x + 2 ^ (4 - k) := by decide +kernel
theorem bit_or' : ∀ x < 32, ∀ k < 5, ∀ k' < 5, k' ≠ k → (x ||| 2 ^ (4 - k)).testBit (4 - k') = x.testBit (4 - k') := by decide +kernel
theorem bit_and : ∀ x < 32, ∀ k < 5, x.testBit (4 - k) = true → x &&& (31 - 2 ^ (4 - k)) = x - 2 ^ (4 - k) ∧ 2 ^ (4 - k) ≤ x := by decide +kernel
theorem bit_and' : ∀ x < 32, ∀ k < 5, ∀ k' < 5, k' ≠ k → (x &&& (31 - 2 ^ (4 - k))).testBit (4 - k') = x.testBit (4 - k') := by decide +kernel
theorem land_bit : ∀ m < 32, ∀ k < 5, decide (Nat.land m (2 ^ (4 - k)) = 0) = !m.testBit (4 - k) := by decide +kernel
structure Inv (m k : Nat) (l : List (Nat × Int)) (M : Nat) : Prop where
  el : ∀ p ∈ l, p.1 < 32 ∧ (∀ k', k ≤ k' → k' < 5 → p.1.testBit (4 - k') = m.testBit (4 - k')) ∧ 1 ≤ p.2 ∧ p.2 ≤ 1 + (k : Int)
  cov : ∀ b, M.testBit b = true → ∃ p ∈ l, b = 8 * p.1 + p.2.toNat
theorem Inv.skip {m k M : Nat} {l : List (Nat × Int)} (h : Inv m k l M) : Inv m (k + 1) l M :=
  ⟨fun p hp => by obtain ⟨a, b, c, d⟩ := h.el p hp; exact ⟨a, fun k' h1 h2 => b k' (by omega) h2, c, by omega⟩, h.cov⟩
theorem Inv.up {m k M : Nat} {l : List (Nat × Int)} (hk : k < 5) (hg : m.testBit (4 - k) = false) (h : Inv m k l M) : Inv m (k + 1) (goC l (65 + k)) (Nat.lor M (Nat.shiftLeft M (Nat.succ (Nat.mul 8 (2 ^ (4 - k)))))) := by
  have e : goC l (65 + k) = l ++ l.map fun p => (p.1 ||| 2 ^ (4 - k), p.2 + 1) := by
    unfold goC
    rw [if_pos (by omega), show 65 + k - 65 = k by omega]
  rw [e]
  refine ⟨fun p hp => ?_, fun b hb => ?_⟩
  · rcases List.mem_append.mp hp with q | q
    · exact h.skip.el p q
    · obtain ⟨r, hr, rfl⟩ := List.mem_map.mp q
      obtain ⟨h1, h2, h3, h4⟩ := h.el r hr
      refine ⟨lt_or _ h1 _ hk, fun k' g1 g2 => ?_, by dsimp only; omega, by dsimp only; omega⟩
      dsimp only
      rw [bit_or' _ h1 _ hk _ g2 (by omega)]
      exact h2 k' (by omega) g2
  · have hb : (M ||| (M <<< (8 * 2 ^ (4 - k) + 1))).testBit b = true := hb
    rw [Nat.testBit_or, Bool.or_eq_true] at hb
    rcases hb with q | q
    · obtain ⟨p, hp, e⟩ := h.cov b q
      exact ⟨p, List.mem_append.mpr (.inl hp), e⟩
    · rw [Nat.testBit_shiftLeft, Bool.and_eq_true, decide_eq_true_eq] at q
      obtain ⟨p, hp, e⟩ := h.cov _ q.2
      obtain ⟨h1, h2, h3, h4⟩ := h.el p hp
      refine ⟨_, List.mem_append.mpr (.inr (List.mem_map.mpr ⟨p, hp, rfl⟩)), ?_⟩
      dsimp only
      rw [bit_or _ h1 _ hk ((h2 k (Nat.le_refl _) hk).trans hg)]
      have : (p.2 + 1).toNat = p.2.toNat + 1 := by omega
      have := q.1
      omega
theorem Inv.lo {m k M : Nat} {l : List (Nat × Int)} (hk : k < 5) (hg : m.testBit (4 - k) = true) (h : Inv m k l M) : Inv m (k + 1) (goC l (97 + k)) (Nat.lor M (Nat.shiftRight M (Nat.mul 8 (2 ^ (4 - k))))) := by
  have e : goC l (97 + k) = l ++ l.map fun p => (p.1 &&& (31 - 2 ^ (4 - k)), p.2) := by
    unfold goC
    rw [if_neg (by omega), show 97 + k - 97 = k by omega]
  rw [e]
  refine ⟨fun p hp => ?_, fun b hb => ?_⟩
  · rcases List.mem_append.mp hp with q | q
    · exact h.skip.el p q
    · obtain ⟨r, hr, rfl⟩ := List.mem_map.mp q
      obtain ⟨h1, h2, h3, h4⟩ := h.el r hr
      refine ⟨lt_and _ h1 _ hk, fun k' g1 g2 => ?_, by dsimp only; omega, by dsimp only; omega⟩
      dsimp only
      rw [bit_and' _ h1 _ hk _ g2 (by omega)]
      exact h2 k' (by omega) g2
  · have hb : (M ||| (M >>> (8 * 2 ^ (4 - k)))).testBit b = true := hb
    rw [Nat.testBit_or, Bool.or_eq_true] at hb
    rcases hb with q | q
    · obtain ⟨p, hp, e⟩ := h.cov b q
      exact ⟨p, List.mem_append.mpr (.inl hp), e⟩
    · rw [Nat.testBit_shiftRight] at q
      obtain ⟨p, hp, e⟩ := h.cov _ q
      obtain ⟨h1, h2, h3, h4⟩ := h.el p hp
      refine ⟨_, List.mem_append.mpr (.inr (List.mem_map.mpr ⟨p, hp, rfl⟩)), ?_⟩
      dsimp only
      obtain ⟨g1, g2⟩ := bit_and _ h1 _ hk ((h2 k (Nat.le_refl _) hk).trans hg)
      rw [g1]
      omega
theorem keyF_cons (n : Nat) (fl : List Nat) : keyF (n :: fl) = (if n < 97 then 9 else 1) + keyF fl := by
  unfold keyF
  rw [List.filter_cons]
  by_cases h : n < 97
  · rw [decide_eq_true h]; simp only [if_true, List.length_cons, h]; omega
  · rw [decide_eq_false h]; simp only [Bool.false_eq_true, if_false, List.length_cons, h]; omega
theorem half_pow : ∀ k < 5, 16 / 2 ^ k = 2 ^ (4 - k) ∧ Nat.div (2 ^ (4 - k)) 2 = 16 / 2 ^ (k + 1) := by decide
theorem goT_spec {α : Type} (o m : Nat) (hm : m < 32) : ∀ (es : List Nat) (k : Nat) (l : List (Nat × Int)) (M key : Nat), es.length + k = 5 → Inv m k l M →
    ∃ M' key', (∀ kont : Nat → Nat → α, goT o m kont es (16 / 2 ^ k) M key = kont M' key') ∧ Inv m 5 ((firmR o m es k).foldl goC l) M' ∧ key' = key + keyF (firmR o m es k)
  | [], k, l, M, key, hk, h => ⟨M, key, fun _ => rfl, by have : k = 5 := by simpa using hk
                                                         subst this; exact h, rfl⟩
  | e :: es, k, l, M, key, hk, h => by
    rw [List.length_cons] at hk
    have hk5 : k < 5 := by omega
    obtain ⟨p1, p2⟩ := half_pow k hk5
    have unf : ∀ (kont : Nat → Nat → α) (c M key : Nat), goT o m kont (e :: es) c M key = @Nat.rec (fun _ => α) (@Nat.rec (fun _ => α) (goT o m kont es (Nat.div c 2) (Nat.lor M (Nat.shiftLeft M (Nat.succ (Nat.mul 8 c)))) (Nat.add key 9)) (fun _ _ => goT o m kont es (Nat.div c 2) (Nat.lor M (Nat.shiftRight M (Nat.mul 8 c))) (Nat.add key 1)) (Nat.land m c)) (fun _ _ => goT o m kont es (Nat.div c 2) M key) (Nat.land e o) := fun _ _ _ _ => rfl
    rw [p1]
    cases he : Nat.land e o with
    | succ n =>
      obtain ⟨M', key', r1, r2, r3⟩ := goT_spec (α := α) o m hm es (k + 1) l M key (by omega) h.skip
      have ne : ¬ e &&& o = 0 := by
        intro q
        have : Nat.land e o = 0 := q
        rw [he] at this; cases this
      refine ⟨M', key', fun kont => ?_, ?_, ?_⟩
      · rw [unf, he, p2]; exact r1 kont
      · unfold firmR; rw [if_neg ne]; exact r2
      · unfold firmR; rw [if_neg ne]; exact r3
    | zero =>
      have eq : e &&& o = 0 := he
      have lb := land_bit m hm k hk5
      cases hg : m.testBit (4 - k) with
      | false =>
        rw [hg] at lb
        have lz : Nat.land m (2 ^ (4 - k)) = 0 := of_decide_eq_true lb
        have hs : sgn m k = 65 + k := by unfold sgn; rw [hg]; simp
        obtain ⟨M', key', r1, r2, r3⟩ := goT_spec (α := α) o m hm es (k + 1) _ _ (Nat.add key 9) (by omega) (h.up hk5 hg)
        refine ⟨M', key', fun kont => ?_, ?_, ?_⟩
        · rw [unf, he, lz, p2]; exact r1 kont
        · unfold firmR; rw [if_pos eq, hs, List.foldl_cons]; exact r2
        · unfold firmR; rw [if_pos eq, hs, keyF_cons, if_pos (by omega), r3]; show key + 9 + _ = _; omega
      | true =>
        rw [hg] at lb
        have lz : Nat.land m (2 ^ (4 - k)) ≠ 0 := of_decide_eq_false lb
        obtain ⟨n, hn⟩ := Nat.exists_eq_succ_of_ne_zero lz
        have hs : sgn m k = 97 + k := by unfold sgn; rw [hg]; simp
        obtain ⟨M', key', r1, r2, r3⟩ := goT_spec (α := α) o m hm es (k + 1) _ _ (Nat.add key 1) (by omega) (h.lo hk5 hg)
        refine ⟨M', key', fun kont => ?_, ?_, ?_⟩
        · rw [unf, he, hn, p2]; exact r1 kont
        · unfold firmR; rw [if_pos eq, hs, List.foldl_cons]; exact r2
        · unfold firmR; rw [if_pos eq, hs, keyF_cons, if_neg (by omega), r3]; show key + 1 + _ = _; omega
theorem firmR_len (o m : Nat) : ∀ (es : List Nat) (k : Nat), (firmR o m es k).length ≤ es.length
  | [], _ => Nat.le_refl _
  | e :: es, k => by
    unfold firmR
    have := firmR_len o m es (k + 1)
    split
    · rw [List.length_cons, List.length_cons]; omega
    · rw [List.length_cons]; omega
noncomputable abbrev setsX (o : Nat) (e : Nat × List Nat) : List (Nat × Int) := setsC e.1 (firmR o e.1 e.2 0)
noncomputable abbrev keyX (o : Nat) (e : Nat × List Nat) : Nat := keyF (firmR o e.1 e.2 0)
theorem goL_spec (o F : Nat) (K : List Nat) : ∀ (TX : List (Nat × List Nat)) (A N : Nat) (ks : List Nat) (L : List (Nat × Int)), (∀ e ∈ TX, e.1 < 32 ∧ e.2.length = 5) → (∀ b, A.testBit b = true → ∃ p ∈ L, b = 8 * p.1 + p.2.toNat) → (∀ p ∈ L, p.1 < 32 ∧ 1 ≤ p.2 ∧ p.2 ≤ 6) → N = L.length →
    goL o F K TX A N ks = true → (∀ b, F.testBit b = true → ∃ p ∈ L ++ TX.flatMap (setsX o), b = 8 * p.1 + p.2.toNat) ∧ (∀ p ∈ L ++ TX.flatMap (setsX o), p.1 < 32 ∧ 1 ≤ p.2 ∧ p.2 ≤ 6) ∧ (L ++ TX.flatMap (setsX o)).length = 32 ∧ ((TX.map (keyX o)).reverse ++ ks).isPerm K = true
  | [], A, N, ks, L, hT, hA, hp, hN, h => by
    have h : (Nat.beq A F && Nat.beq N 32 && ks.isPerm K) = true := h
    rw [Bool.and_eq_true, Bool.and_eq_true] at h
    have e1 := Nat.eq_of_beq_eq_true h.1.1
    have e2 := Nat.eq_of_beq_eq_true h.1.2
    subst e1
    rw [List.flatMap_nil, List.append_nil]
    exact ⟨hA, hp, hN.symm.trans e2, h.2⟩
  | x :: TX, A, N, ks, L, hT, hA, hp, hN, h => by
    obtain ⟨hm, hl⟩ := hT x (.head _)
    have st : Inv x.1 0 [(x.1, 1)] (Nat.shiftLeft 1 (Nat.succ (Nat.mul 8 x.1))) := by
      refine ⟨fun p hp => ?_, fun b hb => ?_⟩
      · rw [List.mem_singleton] at hp
        subst hp
        exact ⟨hm, fun _ _ _ => rfl, by show (1 : Int) ≤ 1; decide, by show (1 : Int) ≤ 1 + ((0 : Nat) : Int); decide⟩
      · have hb : (1 <<< (8 * x.1 + 1)).testBit b = true := hb
        rw [Nat.one_shiftLeft, Nat.testBit_two_pow] at hb
        exact ⟨_, .head _, by have := of_decide_eq_true hb; show b = 8 * x.1 + 1; omega⟩
    obtain ⟨M', key', r1, r2, r3⟩ := goT_spec (α := Bool) o x.1 hm x.2 0 _ _ 0 (by omega) st
    have h : goT o x.1 (fun M k => goL o F K TX (Nat.lor A M) (Nat.add N (Nat.pow 2 (Nat.mod k 8))) (k :: ks)) x.2 (16 / 2 ^ 0) (Nat.shiftLeft 1 (Nat.succ (Nat.mul 8 x.1))) 0 = true := h
    rw [r1] at h
    have fl5 : (firmR o x.1 x.2 0).length ≤ 5 := by rw [← hl]; exact firmR_len ..
    have hlen : (setsX o x).length = 2 ^ (firmR o x.1 x.2 0).length := by
      show (List.foldl goC _ _).length = _
      rw [fold_goC_len]; simp
    have hmod : Nat.mod key' 8 = (firmR o x.1 x.2 0).length := by
      rw [r3]
      show (0 + keyF _) % 8 = _
      unfold keyF
      omega
    have ih := goL_spec o F K TX (Nat.lor A M') (Nat.add N (Nat.pow 2 (Nat.mod key' 8))) (key' :: ks) (L ++ setsX o x) (fun e he => hT e (.tail _ he)) (fun b hb => ?_) (fun p hp' => ?_) ?_ h
    · rw [List.append_assoc] at ih
      rw [List.flatMap_cons]
      refine ⟨ih.1, ih.2.1, ih.2.2.1, ?_⟩
      have e : key' = keyX o x := by rw [r3]; exact Nat.zero_add _
      rw [e] at ih
      rw [List.map_cons, List.reverse_cons, List.append_assoc]
      exact ih.2.2.2
    · have hb : (A ||| M').testBit b = true := hb
      rw [Nat.testBit_or, Bool.or_eq_true] at hb
      rcases hb with q | q
      · obtain ⟨p, hp, e⟩ := hA b q
        exact ⟨p, List.mem_append.mpr (.inl hp), e⟩
      · obtain ⟨p, hp, e⟩ := r2.cov b q
        exact ⟨p, List.mem_append.mpr (.inr hp), e⟩
    · rcases List.mem_append.mp hp' with q | q
      · exact hp p q
      · obtain ⟨a, _, c, d⟩ := r2.el p q
        exact ⟨a, c, by omega⟩
    · rw [hmod, List.length_append, hlen, hN]; rfl
theorem perm_of {t L : List (Nat × Int)} (hn : t.Nodup) (hs : ∀ x ∈ t, x ∈ L) (hl : L.length ≤ t.length) : L.Perm t := by
  induction t generalizing L with
  | nil =>
    have : L = [] := List.length_eq_zero_iff.mp (Nat.le_zero.mp hl)
    subst this; exact .nil
  | cons x t ih =>
    have hx := hs x (.head _)
    have p := List.perm_cons_erase hx
    rw [List.nodup_cons] at hn
    refine p.trans (.cons x (ih hn.2 (fun y hy => ?_) ?_))
    · exact (List.mem_erase_of_ne (fun (e : y = x) => hn.1 (e ▸ hy))).mpr (hs y (.tail _ hy))
    · have := p.length_eq
      rw [List.length_cons] at this hl
      omega
end Mine

namespace Mine
open PySem PySem.W PyProof.Rows

/-! the plain law, 5: orders and firm roads -/
noncomputable def lessN (d : Nat) (ts : List Nat) (j i : Nat) : Bool := (match d with | 0 => Nat.blt (ts.getD j 0) (ts.getD i 0) | _ + 1 => Nat.blt (ts.getD i 0) (ts.getD j 0)) || (Nat.beq (ts.getD j 0) (ts.getD i 0) && Nat.blt j i)
noncomputable def codeF (f : Nat → Bool) : Nat → Nat
  | 0 => 0
  | n + 1 => codeF f n + (match f n with | true => 2 ^ n | false => 0)
theorem codeF_spec (f : Nat → Bool) : ∀ n, codeF f n < 2 ^ n ∧ ∀ x < n, (codeF f n).testBit x = f x
  | 0 => ⟨by show (0 : Nat) < 1; decide, fun x h => (Nat.not_lt_zero _ h).elim⟩
  | n + 1 => by
    obtain ⟨h1, h2⟩ := codeF_spec f n
    unfold codeF
    have hp : 2 ^ (n + 1) = 2 * 2 ^ n := by rw [Nat.pow_succ, Nat.mul_comm]
    have hnb : (codeF f n).testBit n = false := Nat.testBit_lt_two_pow h1
    cases hf : f n with
    | true =>
      dsimp only
      rw [Nat.add_comm]
      refine ⟨by rw [hp]; generalize 2 ^ n = q at h1 ⊢; omega, fun x hx => ?_⟩
      by_cases e : x = n
      · subst e
        rw [Nat.testBit_two_pow_add_eq, hnb, hf]; rfl
      · rw [Nat.testBit_two_pow_add_gt (by omega)]
        exact h2 x (by omega)
    | false =>
      dsimp only
      rw [Nat.add_zero]
      refine ⟨by rw [hp]; generalize 2 ^ n = q at h1 ⊢; omega, fun x hx => ?_⟩
      by_cases e : x = n
      · subst e
        rw [hnb, hf]
      · exact h2 x (by omega)
noncomputable def isO (c : Nat) : Bool := match c with | 0 => false | n + 1 => tabO.any (Nat.beq (n + 1))
noncomputable def oN (d t0 t1 t2 t3 t4 : Nat) : Nat := codeF (fun x => lessN d [t0, t1, t2, t3, t4] (x % 5) (x / 5)) 25
theorem orders_ok : ∀ d < 2, ∀ t0 < 3, ∀ t1 < 3, ∀ t2 < 3, ∀ t3 < 3, ∀ t4 < 3, isO (oN d t0 t1 t2 t3 t4) = true := by decide +kernel
theorem isO_mem {c : Nat} (h : isO c = true) : c ∈ tabO := by
  unfold isO at h
  cases c with
  | zero => cases h
  | succ n =>
    obtain ⟨x, hx, e⟩ := List.any_eq_true.mp h
    rw [Nat.eq_of_beq_eq_true e]; exact hx
theorem judge_up (a b : Int × Int) : judge 1 a b < 0 ↔ a.1 < b.1 ∨ (a.1 = b.1 ∧ a.2 < b.2) := by
  unfold judge
  repeat' split
  all_goals omega
theorem judge_down (a b : Int × Int) : judge (-1) a b < 0 ↔ b.1 < a.1 ∨ (a.1 = b.1 ∧ a.2 < b.2) := by
  unfold judge
  repeat' split
  all_goals omega
noncomputable abbrev rowsN (ts : List Nat) : List (Int × Int) := [((ts.getD 0 0 : Nat), 0), ((ts.getD 1 0 : Nat), 1), ((ts.getD 2 0 : Nat), 2), ((ts.getD 3 0 : Nat), 3), ((ts.getD 4 0 : Nat), 4)]
theorem rowsN_get (ts : List Nat) : ∀ k < 5, (rowsN ts).getD k (0, 0) = (((ts.getD k 0 : Nat) : Int), (k : Int))
  | 0, _ => rfl
  | 1, _ => rfl
  | 2, _ => rfl
  | 3, _ => rfl
  | 4, _ => rfl
  | n + 5, h => absurd h (by omega)
theorem less_up (ts : List Nat) (j i : Nat) (hj : j < 5) (hi : i < 5) : lessOf 1 (rowsN ts) j i = lessN 0 ts j i := by
  unfold lessOf lessN
  rw [rowsN_get ts j hj, rowsN_get ts i hi, Bool.eq_iff_iff, decide_eq_true_eq, judge_up]
  simp only [Bool.or_eq_true, Bool.and_eq_true, Nat.blt_eq, Nat.beq_eq]
  omega
theorem less_down (ts : List Nat) (j i : Nat) (hj : j < 5) (hi : i < 5) : lessOf (-1) (rowsN ts) j i = lessN 1 ts j i := by
  unfold lessOf lessN
  rw [rowsN_get ts j hj, rowsN_get ts i hi, Bool.eq_iff_iff, decide_eq_true_eq, judge_down]
  simp only [Bool.or_eq_true, Bool.and_eq_true, Nat.blt_eq, Nat.beq_eq]
  omega
theorem less_anti (d : Nat) (ts : List Nat) (j i : Nat) (h : j ≠ i) : lessN d ts j i = !lessN d ts i j := by
  unfold lessN
  cases d with
  | zero =>
    rw [Bool.eq_iff_iff, Bool.not_eq_true', ← Bool.not_eq_true]
    simp only [Bool.or_eq_true, Bool.and_eq_true, Nat.blt_eq, Nat.beq_eq]
    omega
  | succ d =>
    rw [Bool.eq_iff_iff, Bool.not_eq_true', ← Bool.not_eq_true]
    simp only [Bool.or_eq_true, Bool.and_eq_true, Nat.blt_eq, Nat.beq_eq]
    omega
/-- the order of five tolls -/
structure Ord (less : Nat → Nat → Bool) (o : Nat) : Prop where
  mem : o ∈ tabO
  bit : ∀ i < 5, ∀ j < 5, less j i = o.testBit (5 * i + j)
  anti : ∀ i < 5, ∀ j < 5, j ≠ i → less j i = !less i j
theorem ord_of (n0 n1 n2 n3 n4 d : Int) (hd : d = 1 ∨ d = -1) : ∃ o, Ord (lessOf d (rowsOf n0 n1 n2 n3 n4)) o := by
  have bd : ∀ n : Int, 0 ≤ (n.fdiv 16).fmod 3 ∧ (n.fdiv 16).fmod 3 < 3 := fun n => ⟨Int.fmod_nonneg_of_pos _ (by decide), Int.fmod_lt_of_pos _ (by decide)⟩
  have h0 := bd n0
  have h1 := bd n1
  have h2 := bd n2
  have h3 := bd n3
  have h4 := bd n4
  have e : rowsOf n0 n1 n2 n3 n4 = rowsN [((n0.fdiv 16).fmod 3).toNat, ((n1.fdiv 16).fmod 3).toNat, ((n2.fdiv 16).fmod 3).toNat, ((n3.fdiv 16).fmod 3).toNat, ((n4.fdiv 16).fmod 3).toNat] := by
    show _ = [((((n0.fdiv 16).fmod 3).toNat : Int), (0 : Int)), ((((n1.fdiv 16).fmod 3).toNat : Int), 1), ((((n2.fdiv 16).fmod 3).toNat : Int), 2), ((((n3.fdiv 16).fmod 3).toNat : Int), 3), ((((n4.fdiv 16).fmod 3).toNat : Int), 4)]
    rw [Int.toNat_of_nonneg h0.1, Int.toNat_of_nonneg h1.1, Int.toNat_of_nonneg h2.1, Int.toNat_of_nonneg h3.1, Int.toNat_of_nonneg h4.1]
  rw [e]
  have key : ∀ dn < 2, (∀ j i, j < 5 → i < 5 → lessOf d (rowsN [((n0.fdiv 16).fmod 3).toNat, ((n1.fdiv 16).fmod 3).toNat, ((n2.fdiv 16).fmod 3).toNat, ((n3.fdiv 16).fmod 3).toNat, ((n4.fdiv 16).fmod 3).toNat]) j i = lessN dn [((n0.fdiv 16).fmod 3).toNat, ((n1.fdiv 16).fmod 3).toNat, ((n2.fdiv 16).fmod 3).toNat, ((n3.fdiv 16).fmod 3).toNat, ((n4.fdiv 16).fmod 3).toNat] j i) →
      ∃ o, Ord (lessOf d (rowsN [((n0.fdiv 16).fmod 3).toNat, ((n1.fdiv 16).fmod 3).toNat, ((n2.fdiv 16).fmod 3).toNat, ((n3.fdiv 16).fmod 3).toNat, ((n4.fdiv 16).fmod 3).toNat])) o := by
    intro dn hdn hl
    refine ⟨_, isO_mem (orders_ok dn hdn ((n0.fdiv 16).fmod 3).toNat (by omega) ((n1.fdiv 16).fmod 3).toNat (by omega) ((n2.fdiv 16).fmod 3).toNat (by omega) ((n3.fdiv 16).fmod 3).toNat (by omega) ((n4.fdiv 16).fmod 3).toNat (by omega)), fun i hi j hj => ?_, fun i hi j hj hne => ?_⟩
    · rw [hl j i hj hi]
      unfold oN
      rw [(codeF_spec _ 25).2 (5 * i + j) (by omega), show (5 * i + j) % 5 = j by omega, show (5 * i + j) / 5 = i by omega]
    · rw [hl j i hj hi, hl i j hi hj]
      exact less_anti _ _ _ _ hne
  rcases hd with rfl | rfl
  · exact key 0 (by decide) fun j i hj hi => less_up _ j i hj hi
  · exact key 1 (by decide) fun j i hj hi => less_down _ j i hj hi

/-! the steps of a tree -/
noncomputable def stepsX (m : Nat) (es : List Nat) : List (Nat × Nat × Nat) := (List.range 5).flatMap fun i => (List.range 5).filterMap fun j => if (!m.testBit (4 - i) && m.testBit (4 - j) && (es.getD i 0).testBit (5 * i + j)) = true then some (m, i, j) else none
noncomputable abbrev stepsT (TX : List (Nat × List Nat)) : List (Nat × Nat × Nat) := TX.flatMap fun e => stepsX e.1 e.2
noncomputable def entOk (e : Nat × List Nat) : Bool := decide (e.1 < 32) && decide (e.2.length = 5) && (List.range 5).all fun i => (Nat.beq ((e.2.getD i 0 >>> (5 * i)) % 32 * 2 ^ (5 * i)) (e.2.getD i 0)) && (List.range 5).all fun j => ((e.2.getD i 0).testBit (5 * i + j) == (e.2.getD j 0).testBit (5 * j + i)) && (!(e.2.getD i 0).testBit (5 * i + j) || (e.1.testBit (4 - i) != e.1.testBit (4 - j)))
theorem ents_ok : ∀ t ∈ tabT, ∀ e ∈ t.2.1, entOk e = true := by decide +kernel
structure Ent (e : Nat × List Nat) : Prop where
  lt : e.1 < 32
  len : e.2.length = 5
  low : ∀ i < 5, ∀ b, (e.2.getD i 0).testBit b = true → ∃ j < 5, b = 5 * i + j
  sym : ∀ i < 5, ∀ j < 5, (e.2.getD i 0).testBit (5 * i + j) = (e.2.getD j 0).testBit (5 * j + i)
  opp : ∀ i < 5, ∀ j < 5, (e.2.getD i 0).testBit (5 * i + j) = true → e.1.testBit (4 - i) = !e.1.testBit (4 - j)
theorem ent_of {e : Nat × List Nat} (h : entOk e = true) : Ent e := by
  unfold entOk at h
  rw [Bool.and_eq_true, Bool.and_eq_true, decide_eq_true_eq, decide_eq_true_eq, List.all_eq_true] at h
  obtain ⟨⟨h1, h2⟩, h3⟩ := h
  have h4 : ∀ i < 5, _ := fun i hi => h3 i (List.mem_range.mpr hi)
  simp only [Bool.and_eq_true, List.all_eq_true] at h4
  refine ⟨h1, h2, fun i hi b hb => ?_, fun i hi j hj => ?_, fun i hi j hj hb => ?_⟩
  · have := Nat.eq_of_beq_eq_true (h4 i hi).1
    rw [← this, Nat.mul_comm, Nat.testBit_two_pow_mul] at hb
    simp only [Bool.and_eq_true, decide_eq_true_eq] at hb
    obtain ⟨q1, q2⟩ := hb
    have : b - 5 * i < 5 := by
      rcases Nat.lt_or_ge (b - 5 * i) 5 with q | q
      · exact q
      · have lt32 : (e.2.getD i 0 >>> (5 * i)) % 32 < 2 ^ (b - 5 * i) := Nat.lt_of_lt_of_le (Nat.mod_lt _ (by decide)) (Nat.pow_le_pow_right (n := 2) (by decide) q)
        rw [Nat.testBit_lt_two_pow lt32] at q2
        cases q2
    exact ⟨b - 5 * i, this, by omega⟩
  · exact eq_of_beq ((h4 i hi).2 j (List.mem_range.mpr hj)).1
  · have := ((h4 i hi).2 j (List.mem_range.mpr hj)).2
    rw [hb] at this
    simp only [Bool.not_true, Bool.false_or, bne_iff_ne, ne_eq] at this
    cases q : e.1.testBit (4 - i) <;> cases w : e.1.testBit (4 - j) <;> simp_all
theorem mem_stepsX {m i j : Nat} {m' : Nat} {es : List Nat} : (m', i, j) ∈ stepsX m es ↔ m' = m ∧ i < 5 ∧ j < 5 ∧ m.testBit (4 - i) = false ∧ m.testBit (4 - j) = true ∧ (es.getD i 0).testBit (5 * i + j) = true := by
  unfold stepsX
  simp only [List.mem_flatMap, List.mem_range, List.mem_filterMap]
  constructor
  · rintro ⟨i', hi, j', hj, h⟩
    split at h
    · rename_i hc
      simp only [Bool.and_eq_true, Bool.not_eq_true'] at hc
      cases h
      exact ⟨rfl, hi, hj, hc.1.1, hc.1.2, hc.2⟩
    · cases h
  · rintro ⟨rfl, hi, hj, h1, h2, h3⟩
    exact ⟨i, hi, j, hj, by rw [h1, h2, h3]; rfl⟩
theorem uniq {TX : List (Nat × List Nat)} (hn : (TX.map (·.1)).Nodup) : ∀ {e e' : Nat × List Nat}, e ∈ TX → e' ∈ TX → e.1 = e'.1 → e = e' := by
  induction TX with
  | nil => intro e e' h; cases h
  | cons x TX ih =>
    intro e e' h h' he
    rw [List.map_cons, List.nodup_cons] at hn
    rcases List.mem_cons.mp h with h1 | h1
    · rcases List.mem_cons.mp h' with h2 | h2
      · rw [h1, h2]
      · exact absurd (List.mem_map.mpr ⟨e', h2, by rw [← he, h1]⟩) hn.1
    · rcases List.mem_cons.mp h' with h2 | h2
      · exact absurd (List.mem_map.mpr ⟨e, h1, by rw [he, h2]⟩) hn.1
      · exact ih hn.2 h1 h2 he
theorem and_bits {a b : Nat} : ¬ a &&& b = 0 ↔ ∃ x, a.testBit x = true ∧ b.testBit x = true := by
  constructor
  · intro h
    obtain ⟨x, hx⟩ := Nat.exists_testBit_of_ne_zero h
    rw [Nat.testBit_and, Bool.and_eq_true] at hx
    exact ⟨x, hx⟩
  · rintro ⟨x, h1, h2⟩ h
    have : (a &&& b).testBit x = true := by rw [Nat.testBit_and, h1, h2]; rfl
    rw [h, Nat.zero_testBit] at this
    cases this
theorem loose_iff {less : Nat → Nat → Bool} {o : Nat} (O : Ord less o) {TX : List (Nat × List Nat)} (hn : (TX.map (·.1)).Nodup) (hE : ∀ e ∈ TX, Ent e) {e : Nat × List Nat} (he : e ∈ TX) {k : Nat} (hk : k < 5) :
    sgn e.1 k ∈ lzOf less (stepsT TX) e.1 ↔ ¬ e.2.getD k 0 &&& o = 0 := by
  have E := hE e he
  rw [and_bits]
  unfold lzOf
  rw [List.mem_map]
  constructor
  · rintro ⟨⟨m', i, j⟩, hs, hc⟩
    rw [List.mem_filter] at hs
    have hm : m' = e.1 := eq_of_beq hs.2
    obtain ⟨e', he', hx⟩ := List.mem_flatMap.mp hs.1
    obtain ⟨q0, q1, q2, q3, q4, q5⟩ := mem_stepsX.mp hx
    have := uniq hn he' he (q0.symm.trans hm)
    subst this
    dsimp only at hc
    cases hl : less j i with
    | true =>
      rw [hl, if_pos rfl] at hc
      unfold sgn at hc
      split at hc
      · omega
      · have : i = k := by omega
        subst this
        exact ⟨5 * i + j, q5, by rw [← O.bit i q1 j q2]; exact hl⟩
    | false =>
      rw [hl, if_neg Bool.false_ne_true] at hc
      unfold sgn at hc
      split at hc
      · have : j = k := by omega
        subst this
        refine ⟨5 * j + i, by rw [← E.sym i q1 j q2]; exact q5, ?_⟩
        rw [← O.bit j q2 i q1, O.anti j q2 i q1 (fun h => by subst h; rw [q3] at q4; cases q4), hl]; rfl
      · omega
  · rintro ⟨b, h1, h2⟩
    obtain ⟨j, hj, rfl⟩ := E.low k hk b h1
    have hop := E.opp k hk j hj h1
    rw [← O.bit k hk j hj] at h2
    have hne : j ≠ k := fun h => by subst h; cases q : e.1.testBit (4 - j) <;> rw [q] at hop <;> cases hop
    cases hg : e.1.testBit (4 - k) with
    | false =>
      rw [hg] at hop
      have hg' : e.1.testBit (4 - j) = true := by cases q : e.1.testBit (4 - j) <;> rw [q] at hop <;> first | rfl | cases hop
      refine ⟨(e.1, k, j), List.mem_filter.mpr ⟨List.mem_flatMap.mpr ⟨e, he, mem_stepsX.mpr ⟨rfl, hk, hj, hg, hg', h1⟩⟩, beq_self_eq_true _⟩, ?_⟩
      dsimp only
      rw [h2, if_pos rfl]
      unfold sgn
      rw [hg]; simp
    | true =>
      rw [hg] at hop
      have hg' : e.1.testBit (4 - j) = false := by cases q : e.1.testBit (4 - j) <;> rw [q] at hop <;> first | rfl | cases hop
      refine ⟨(e.1, j, k), List.mem_filter.mpr ⟨List.mem_flatMap.mpr ⟨e, he, mem_stepsX.mpr ⟨rfl, hj, hk, hg', hg, by rw [← E.sym k hk j hj]; exact h1⟩⟩, beq_self_eq_true _⟩, ?_⟩
      dsimp only
      have : less k j = false := by rw [O.anti j hj k hk (Ne.symm hne), h2]; rfl
      rw [this, if_neg Bool.false_ne_true]
      unfold sgn
      rw [hg]; simp
theorem firmR_cons (o m e : Nat) (es : List Nat) (k : Nat) : firmR o m (e :: es) k = if e &&& o = 0 then sgn m k :: firmR o m es (k + 1) else firmR o m es (k + 1) := rfl
theorem filter_firmR {o m : Nat} {lz : List Nat} : ∀ (es : List Nat) (k : Nat), (∀ t < es.length, (sgn m (k + t) ∈ lz ↔ ¬ es.getD t 0 &&& o = 0)) → ((List.range' k es.length).map (sgn m)).filter (fun ch => !decide (ch ∈ lz)) = firmR o m es k
  | [], _, _ => rfl
  | e :: es, k, h => by
    have h0 := h 0 (by simp)
    have ih := filter_firmR es (k + 1) fun t ht => by
      have := h (t + 1) (by simp; omega)
      rw [show k + 1 + t = k + (t + 1) by omega]
      exact this
    rw [List.length_cons, List.range'_succ, List.map_cons, List.filter_cons, ih, firmR_cons]
    by_cases q : e &&& o = 0
    · have : sgn m k ∉ lz := fun hm => (h0.mp hm) q
      rw [if_pos q, decide_eq_false this]; rfl
    · have : sgn m k ∈ lz := h0.mpr q
      rw [if_neg q, decide_eq_true this]; rfl
theorem firm_eq {less : Nat → Nat → Bool} {o : Nat} (O : Ord less o) {TX : List (Nat × List Nat)} (hn : (TX.map (·.1)).Nodup) (hE : ∀ e ∈ TX, Ent e) {e : Nat × List Nat} (he : e ∈ TX) : firmL less (stepsT TX) e.1 = firmR o e.1 e.2 0 := by
  have E := hE e he
  rw [← filter_firmR (lz := lzOf less (stepsT TX) e.1) e.2 0 fun t ht => by rw [Nat.zero_add]; exact loose_iff O hn hE he (by rw [← E.len]; exact ht), E.len]
  rfl
end Mine

namespace Mine
open PySem PySem.W PyProof.Rows

/-! the plain law, 6: the walk from tree to tree, by numbers -/
structure WkC where
  heap : List Nat
  met : List Nat
  trees : List Nat
  steps : List (Nat × Nat × Nat)
noncomputable abbrev stepS (s : Nat × Nat × Nat) : Str × Str × Str := (txt s.1, upS s.2.1, loS s.2.2)
noncomputable abbrev toW (w : WkC) : Wk := { heap := w.heap.map txt, met := w.met.map txt, trees := w.trees.map txt, steps := w.steps.map stepS }
noncomputable def L32 (xs : List Nat) : Prop := ∀ x ∈ xs, x < 32
noncomputable def sdownC : Nat → List Nat → Nat → Nat → List Nat
  | 0, xs, pos, it => xs
  | n + 1, xs, pos, it => if 0 < pos then (if it < xs.getD ((pos - 1) / 2) 0 then sdownC n (xs.set pos (xs.getD ((pos - 1) / 2) 0)) ((pos - 1) / 2) it else xs.set pos it) else xs.set pos it
noncomputable def hpushC (xs : List Nat) (it : Nat) : List Nat := sdownC (xs.length + 1) (xs ++ [it]) xs.length it
noncomputable def childC (xs : List Nat) (pos : Nat) : Nat := if 2 * pos + 2 < xs.length ∧ ¬ (xs.getD (2 * pos + 1) 0 < xs.getD (2 * pos + 2) 0) then 2 * pos + 2 else 2 * pos + 1
noncomputable def supC : Nat → List Nat → Nat → Nat → List Nat
  | 0, xs, pos, it => xs
  | n + 1, xs, pos, it => if 2 * pos + 1 < xs.length then supC n (xs.set pos (xs.getD (childC xs pos) 0)) (childC xs pos) it else sdownC (pos + 1) (xs.set pos it) pos it
noncomputable def hpopC (xs : List Nat) : Nat × List Nat :=
  match xs.getLast? with
  | none => (0, [])
  | some last => match xs.dropLast with
    | [] => (last, [])
    | y :: ys => (y, supC (ys.length + 2) (last :: ys) 0 last)
theorem getD_txt {xs : List Nat} {i : Nat} (h : i < xs.length) : (xs.map txt).getD i "" = txt (xs.getD i 0) := by
  rw [List.getD_eq_getElem?_getD, List.getElem?_map, List.getElem?_eq_getElem h]
  simp [h]
theorem getD_32 {xs : List Nat} (h : L32 xs) (i : Nat) : xs.getD i 0 < 32 := by
  rw [List.getD_eq_getElem?_getD]
  cases e : xs[i]? with
  | none => decide
  | some x => exact h x (List.mem_of_getElem? e)
theorem set_32 {xs : List Nat} (h : L32 xs) {i x : Nat} (hx : x < 32) : L32 (xs.set i x) := fun y hy => by
  rcases List.mem_or_eq_of_mem_set hy with q | q
  · exact h y q
  · rw [q]; exact hx
theorem lt_txt {m n : Nat} (hm : m < 32) (hn : n < 32) : ((txt m).cps.toList < (txt n).cps.toList) ↔ m < n := by
  have := txt_lt m hm n hn
  constructor
  · intro h; rw [decide_eq_true h] at this; exact of_decide_eq_true this.symm
  · intro h; rw [decide_eq_true h] at this; exact of_decide_eq_true this
theorem sdown_map : ∀ (n : Nat) (xs : List Nat) (pos it : Nat), pos < xs.length → L32 xs → it < 32 → sdown n (xs.map txt) pos (txt it) = (sdownC n xs pos it).map txt ∧ L32 (sdownC n xs pos it) ∧ (sdownC n xs pos it).length = xs.length
  | 0, xs, pos, it, hp, hx, hi => ⟨rfl, hx, rfl⟩
  | n + 1, xs, pos, it, hp, hx, hi => by
    unfold sdown sdownC
    by_cases h0 : 0 < pos
    · rw [if_pos h0, if_pos h0, getD_txt (by omega)]
      by_cases h1 : it < xs.getD ((pos - 1) / 2) 0
      · rw [if_pos h1, if_pos ((lt_txt hi (getD_32 hx _)).mpr h1), ← List.map_set]
        have ih := sdown_map n (xs.set pos (xs.getD ((pos - 1) / 2) 0)) ((pos - 1) / 2) it (by rw [List.length_set]; omega) (set_32 hx (getD_32 hx _)) hi
        rw [List.length_set] at ih
        exact ih
      · rw [if_neg h1, if_neg (fun q => h1 ((lt_txt hi (getD_32 hx _)).mp q)), ← List.map_set]
        exact ⟨rfl, set_32 hx hi, List.length_set⟩
    · rw [if_neg h0, if_neg h0, ← List.map_set]
      exact ⟨rfl, set_32 hx hi, List.length_set⟩
theorem hpush_map {xs : List Nat} {it : Nat} (hx : L32 xs) (hi : it < 32) : hpush (xs.map txt) (txt it) = (hpushC xs it).map txt ∧ L32 (hpushC xs it) := by
  unfold hpush hpushC
  have e : xs.map txt ++ [txt it] = (xs ++ [it]).map txt := by simp
  rw [e, List.length_map]
  have hx' : L32 (xs ++ [it]) := fun y hy => by
    rcases List.mem_append.mp hy with q | q
    · exact hx y q
    · rw [List.mem_singleton] at q; rw [q]; exact hi
  have := sdown_map (xs.length + 1) (xs ++ [it]) xs.length it (by simp) hx' hi
  exact ⟨this.1, this.2.1⟩
theorem child_map {xs : List Nat} {pos : Nat} (hx : L32 xs) (hp : 2 * pos + 1 < xs.length) : child (xs.map txt) pos = childC xs pos ∧ childC xs pos < xs.length := by
  unfold child childC
  rw [List.length_map]
  by_cases h : 2 * pos + 2 < xs.length
  · rw [getD_txt hp, getD_txt h]
    have := lt_txt (getD_32 hx (2 * pos + 1)) (getD_32 hx (2 * pos + 2))
    by_cases q : xs.getD (2 * pos + 1) 0 < xs.getD (2 * pos + 2) 0
    · rw [if_neg (fun w => w.2 (this.mpr q)), if_neg (fun w => w.2 q)]
      exact ⟨rfl, hp⟩
    · rw [if_pos ⟨h, fun w => q (this.mp w)⟩, if_pos ⟨h, q⟩]
      exact ⟨rfl, h⟩
  · rw [if_neg (fun w => h w.1), if_neg (fun w => h w.1)]
    exact ⟨rfl, hp⟩
theorem sup_map : ∀ (n : Nat) (xs : List Nat) (pos it : Nat), pos < xs.length → L32 xs → it < 32 → sup n (xs.map txt) pos (txt it) = (supC n xs pos it).map txt ∧ L32 (supC n xs pos it)
  | 0, xs, pos, it, hp, hx, hi => ⟨rfl, hx⟩
  | n + 1, xs, pos, it, hp, hx, hi => by
    unfold sup supC
    rw [List.length_map]
    by_cases h0 : 2 * pos + 1 < xs.length
    · obtain ⟨c1, c2⟩ := child_map hx h0
      rw [if_pos h0, if_pos h0, c1, getD_txt c2, ← List.map_set]
      exact sup_map n _ _ it (by rw [List.length_set]; exact c2) (set_32 hx (getD_32 hx _)) hi
    · rw [if_neg h0, if_neg h0, ← List.map_set]
      have := sdown_map (pos + 1) (xs.set pos it) pos it (by rw [List.length_set]; exact hp) (set_32 hx hi) hi
      exact ⟨this.1, this.2.1⟩
theorem hpop_map {xs : List Nat} (hx : L32 xs) (hne : xs ≠ []) : hpop (xs.map txt) = (txt (hpopC xs).1, (hpopC xs).2.map txt) ∧ (hpopC xs).1 < 32 ∧ L32 (hpopC xs).2 := by
  obtain ⟨ys, y, rfl⟩ : ∃ ys y, xs = ys ++ [y] := ⟨xs.dropLast, xs.getLast hne, (List.dropLast_concat_getLast hne).symm⟩
  have hy : y < 32 := hx y (by simp)
  unfold hpop hpopC
  rw [List.map_append, List.map_singleton, List.getLast?_concat, List.getLast?_concat, List.dropLast_concat, List.dropLast_concat]
  dsimp only
  cases ys with
  | nil => exact ⟨rfl, hy, fun z hz => nomatch hz⟩
  | cons z zs =>
    rw [List.map_cons]
    dsimp only
    have hx' : L32 (y :: zs) := fun w hw => by
      rcases List.mem_cons.mp hw with rfl | hw
      · exact hy
      · exact hx w (by simp [hw])
    have := sup_map (zs.length + 2) (y :: zs) 0 y (by simp) hx' hy
    rw [List.length_map]
    exact ⟨by rw [← this.1]; rfl, hx z (by simp), this.2⟩
noncomputable def exC (m i j : Nat) : Nat := (m ||| 2 ^ (4 - i)) &&& (31 - 2 ^ (4 - j))
theorem exch_txt {m i j : Nat} (hm : m < 32) (hi : i < 5) (hj : j < 5) : exch (txt m) (upS i) (loS j) = txt (exC m i j) ∧ exC m i j < 32 := by
  unfold exch exC upS loS
  rw [rep_lo m hm i hi, rep_up _ (lt_or m hm i hi) j hj]
  exact ⟨rfl, lt_and _ (lt_or m hm i hi) j hj⟩
theorem turns_txt {m i j : Nat} (hm : m < 32) (hi : i < 5) (hj : j < 5) : turnsOk (txt m) (upS i) (Txt.lower (upS i)) = true ∧ turnsOk (Txt.replace (txt m) (upS i) (Txt.lower (upS i))) (loS j) (Txt.upper (loS j)) = true := by
  obtain ⟨a1, a2, a3⟩ := turn_lo i hi
  obtain ⟨b1, b2, b3⟩ := turn_up j hj
  have e := rep_lo m hm i hi
  unfold turnsOk upS loS
  rw [e, a1, a2, a3, b1, b2, b3]
  exact ⟨rfl, rfl⟩
noncomputable abbrev PV (V : Nat) : List (Str × Int) := (List.range 32).map fun i => (txt i, pcV V i)
theorem look_pc {V m : Nat} (hm : m < 32) : (PV V).lookup (txt m) = some (pcV V m) := by
  have hlk : ((List.range 32).map fun i => (txt i, D.int (pcV V i))).lookup (txt m) = some (.int (pcV V m)) := look_txt (fun x hx => List.mem_range.mp hx) hm (List.mem_range.mpr hm)
  have := di_lookup (k := txt m) (tl := PV V)
  rw [show di (PV V) = (List.range 32).map fun i => (txt i, D.int (pcV V i)) by unfold di; rw [List.map_map]; rfl, hlk] at this
  cases q : (PV V).lookup (txt m) with
  | none => rw [q] at this; cases this
  | some n => rw [q] at this; cases this; rfl
noncomputable def inOneC (V m i j : Nat) (w : WkC) : Option WkC :=
  if Nat.ble w.steps.length 500 && Nat.ble w.met.length 500 && Nat.ble w.heap.length 500 then
    (if V / 4 ^ (31 - exC m i j) % 4 = 0 then
      (if w.met.any (· == exC m i j) then some { w with steps := w.steps ++ [(m, i, j)] }
       else some { w with steps := w.steps ++ [(m, i, j)], met := w.met ++ [exC m i j], heap := hpushC w.heap (exC m i j) })
    else some w)
  else none
structure OkW (w : WkC) : Prop where
  heap : L32 w.heap
  met : L32 w.met
theorem any_txt {m : Nat} (hm : m < 32) : ∀ {xs : List Nat}, L32 xs → (xs.map txt).any (· == txt m) = xs.any (· == m)
  | [], _ => rfl
  | x :: xs, h => by
    have hx := h x (.head _)
    rw [List.map_cons, List.any_cons, List.any_cons, any_txt hm fun y hy => h y (.tail _ hy)]
    congr 1
    have := txt_beq x hx m hm
    by_cases q : x = m
    · subst q; rw [beq_self_eq_true, beq_self_eq_true]
    · rw [beq_eq_false_iff_ne.mpr q, beq_eq_false_iff_ne.mpr (fun e => q (txt_inj x hx m hm e))]
theorem inOne_map {V m i j : Nat} (hm : m < 32) (hi : i < 5) (hj : j < 5) {w : WkC} (ok : OkW w) : inOne (PV V) (txt m) (upS i) (loS j) (toW w) = (inOneC V m i j w).map toW ∧ ∀ w', inOneC V m i j w = some w' → OkW w' := by
  obtain ⟨t1, t2⟩ := turns_txt hm hi hj
  obtain ⟨e1, e2⟩ := exch_txt hm hi hj
  unfold inOne inOneC
  rw [t1, t2, e1, look_pc e2]
  simp only [List.length_map, Bool.true_and]
  cases hg : (Nat.ble w.steps.length 500 && Nat.ble w.met.length 500 && Nat.ble w.heap.length 500) with
  | false => exact ⟨rfl, fun w' h => by cases h⟩
  | true =>
    rw [if_pos rfl, if_pos rfl]
    have hpc : (pcV V (exC m i j) == 1) = decide (V / 4 ^ (31 - exC m i j) % 4 = 0) := by
      unfold pcV
      rw [Bool.eq_iff_iff, beq_iff_eq, decide_eq_true_eq]
      omega
    rw [hpc]
    by_cases h0 : V / 4 ^ (31 - exC m i j) % 4 = 0
    · rw [decide_eq_true h0, if_pos rfl, if_pos h0, any_txt e2 ok.met]
      cases ha : w.met.any (· == exC m i j) with
      | true =>
        rw [if_pos rfl, if_pos rfl]
        refine ⟨?_, fun w' h => by cases h; exact ⟨ok.heap, ok.met⟩⟩
        show some _ = some _
        simp [toW]
      | false =>
        rw [if_neg Bool.false_ne_true, if_neg Bool.false_ne_true]
        obtain ⟨p1, p2⟩ := hpush_map ok.heap e2
        have hmet : L32 (w.met ++ [exC m i j]) := fun y hy => by
          rcases List.mem_append.mp hy with q | q
          · exact ok.met y q
          · rw [List.mem_singleton] at q; rw [q]; exact e2
        refine ⟨?_, fun w' h => by cases h; exact ⟨p2, hmet⟩⟩
        show some _ = some _
        simp [toW, p1]
    · rw [decide_eq_false h0, if_neg Bool.false_ne_true, if_neg h0]
      exact ⟨rfl, fun w' h => by cases h; exact ok⟩
noncomputable def grs (m : Nat) : List Nat := [0, 1, 2, 3, 4].filter fun k => !m.testBit (4 - k)
noncomputable def sms (m : Nat) : List Nat := [0, 1, 2, 3, 4].filter fun k => m.testBit (4 - k)
theorem among_up : ∀ m < 32, among "ABCDE" (txt m) = (grs m).map upS := by decide +kernel
theorem among_lo : ∀ m < 32, among "abcde" (txt m) = (sms m).map loS := by decide +kernel
theorem grs_lt (m : Nat) : ∀ k ∈ grs m, k < 5 := fun k hk => by
  have := (List.mem_filter.mp hk).1
  simp only [List.mem_cons, List.not_mem_nil, or_false] at this
  omega
theorem sms_lt (m : Nat) : ∀ k ∈ sms m, k < 5 := fun k hk => by
  have := (List.mem_filter.mp hk).1
  simp only [List.mem_cons, List.not_mem_nil, or_false] at this
  omega
theorem fold_map {β : Type} {f : Wk → β → Option Wk} {g : WkC → Nat → Option WkC} {h : Nat → β} : ∀ (l : List Nat) (w : WkC), (∀ k ∈ l, ∀ w, OkW w → f (toW w) (h k) = (g w k).map toW ∧ ∀ w', g w k = some w' → OkW w') → OkW w →
    (l.map h).foldlM f (toW w) = (l.foldlM g w).map toW ∧ ∀ w', l.foldlM g w = some w' → OkW w'
  | [], w, _, ok => ⟨rfl, fun w' e => by cases e; exact ok⟩
  | k :: l, w, hk, ok => by
    obtain ⟨a, b⟩ := hk k (.head _) w ok
    rw [List.map_cons, List.foldlM_cons, List.foldlM_cons, a]
    cases e : g w k with
    | none => exact ⟨rfl, fun w' h => by cases h⟩
    | some w1 =>
      have ih := fold_map (f := f) (g := g) (h := h) l w1 (fun k' hk' => hk k' (.tail _ hk')) (b w1 e)
      exact ih
noncomputable def inTreeC (V m : Nat) (w : WkC) : Option WkC := (grs m).foldlM (fun w i => (sms m).foldlM (fun w j => inOneC V m i j w) w) w
theorem inTree_map {V m : Nat} (hm : m < 32) {w : WkC} (ok : OkW w) : inTree (PV V) (txt m) (toW w) = (inTreeC V m w).map toW ∧ ∀ w', inTreeC V m w = some w' → OkW w' := by
  unfold inTree inTreeC
  rw [among_up m hm, among_lo m hm]
  exact fold_map (f := fun w out => ((sms m).map loS).foldlM (fun w into => inOne (PV V) (txt m) out into w) w) (g := fun w i => (sms m).foldlM (fun w j => inOneC V m i j w) w) (h := upS) (grs m) w
    (fun i hi w ok => fold_map (f := fun w into => inOne (PV V) (txt m) (upS i) into w) (g := fun w j => inOneC V m i j w) (h := loS) (sms m) w (fun j hj w ok => inOne_map hm (grs_lt m i hi) (sms_lt m j hj) ok) ok) ok
noncomputable def walkC (V : Nat) : Nat → WkC → Option WkC
  | 0, _ => none
  | n + 1, w => if Nat.ble w.heap.length 500 && Nat.ble w.trees.length 500 then
      match w.heap with
      | [] => some w
      | _ :: _ => (inTreeC V (hpopC w.heap).1 { w with heap := (hpopC w.heap).2, trees := w.trees ++ [(hpopC w.heap).1] }).bind fun w' => walkC V n w'
    else none
theorem all_txt {xs : List Nat} (h : L32 xs) : (xs.map txt).all (fun x => (x.cps.all fun n => decide (n < 128)) && Nat.ble x.length 100 && walkN.strOkB x) = true := by
  rw [List.all_map, List.all_eq_true]
  exact fun m hm => txt_all m (h m hm)
theorem walk_map (V : Nat) : ∀ (n : Nat) (w : WkC), OkW w → walkN (PV V) n (toW w) = (walkC V n w).map toW
  | 0, w, ok => rfl
  | n + 1, w, ok => by
    unfold walkN walkC
    have ha := all_txt ok.heap
    have e1 : (Nat.ble (toW w).heap.length 500 && Nat.ble (toW w).trees.length 500 && (toW w).heap.all fun x => (x.cps.all fun n => decide (n < 128)) && Nat.ble x.length 100 && walkN.strOkB x) = (Nat.ble w.heap.length 500 && Nat.ble w.trees.length 500) := by
      show (Nat.ble (w.heap.map txt).length 500 && Nat.ble (w.trees.map txt).length 500 && (w.heap.map txt).all _) = _
      rw [ha, List.length_map, List.length_map, Bool.and_true]
    rw [e1]
    cases hg : (Nat.ble w.heap.length 500 && Nat.ble w.trees.length 500) with
    | false => rfl
    | true =>
      rw [if_pos rfl, if_pos rfl]
      cases hh : w.heap with
      | nil =>
        have : (toW w).heap = [] := by show w.heap.map txt = []; rw [hh]; rfl
        rw [this]; rfl
      | cons x xs =>
        have hne : w.heap ≠ [] := by rw [hh]; exact List.cons_ne_nil _ _
        obtain ⟨p1, p2, p3⟩ := hpop_map ok.heap hne
        have e2 : (toW w).heap = txt x :: xs.map txt := by show w.heap.map txt = _; rw [hh]; rfl
        rw [e2]
        dsimp only
        rw [← e2, ← hh]
        have p1 : hpop (toW w).heap = (txt (hpopC w.heap).1, (hpopC w.heap).2.map txt) := p1
        rw [p1]
        dsimp only
        have hal := txt_all _ p2
        rw [Bool.and_eq_true] at hal
        rw [if_pos hal.1]
        have ok' : OkW { w with heap := (hpopC w.heap).2, trees := w.trees ++ [(hpopC w.heap).1] } := ⟨p3, ok.met⟩
        obtain ⟨i1, i2⟩ := inTree_map (V := V) p2 ok'
        have e3 : ({ toW w with heap := (hpopC w.heap).2.map txt, trees := (toW w).trees ++ [txt (hpopC w.heap).1] } : Wk) = toW { w with heap := (hpopC w.heap).2, trees := w.trees ++ [(hpopC w.heap).1] } := by simp [toW]
        rw [e3, i1]
        cases hi : inTreeC V (hpopC w.heap).1 { w with heap := (hpopC w.heap).2, trees := w.trees ++ [(hpopC w.heap).1] } with
        | none => rfl
        | some w' => exact walk_map V n w' (i2 w' hi)
noncomputable def w0C : WkC := { heap := [3], met := [3], trees := [], steps := [] }
theorem w0_eq : toW w0C = { heap := ["ABCde"], met := ["ABCde"], trees := [], steps := [] } := by
  have : txt 3 = "ABCde" := by decide +kernel
  show ({ heap := [txt 3], met := [txt 3], trees := [], steps := [] } : Wk) = _
  rw [this]
noncomputable def walkOk (t : Nat × List (Nat × List Nat) × Nat × List Nat) : Bool := match walkC t.1 10 w0C with
  | some w => w.trees == t.2.1.map (·.1) && w.steps == stepsT t.2.1
  | none => false
theorem walks_ok : ∀ t ∈ tabT, walkOk t = true := by decide +kernel
theorem walk_of {t : Nat × List (Nat × List Nat) × Nat × List Nat} (h : t ∈ tabT) : ∃ K w, walkN (PV t.1) K { heap := ["ABCde"], met := ["ABCde"], trees := [], steps := [] } = some w ∧ w.trees = (t.2.1.map (·.1)).map txt ∧ w.steps = (stepsT t.2.1).map fun s => (txt s.1, upS s.2.1, loS s.2.2) := by
  have hw := walks_ok t h
  unfold walkOk at hw
  cases e : walkC t.1 10 w0C with
  | none => rw [e] at hw; cases hw
  | some w =>
    rw [e] at hw
    have hw : (w.trees == t.2.1.map (·.1) && w.steps == stepsT t.2.1) = true := hw
    rw [Bool.and_eq_true] at hw
    refine ⟨10, toW w, ?_, ?_, ?_⟩
    · rw [← w0_eq, walk_map t.1 10 w0C ⟨fun x hx => by rw [List.mem_singleton.mp hx]; decide, fun x hx => by rw [List.mem_singleton.mp hx]; decide⟩, e]; rfl
    · show w.trees.map txt = _; rw [eq_of_beq hw.1]
    · show w.steps.map stepS = _; rw [eq_of_beq hw.2]
end Mine

namespace Mine
open PySem PySem.W PyProof.Rows

/-! the plain law, 7: tallies, and all together -/
theorem bump_look (tl : List (Str × Int)) (k k' : Str) : (bump tl k).lookup k' = if k' = k then some ((tl.lookup k).getD 0 + 1) else tl.lookup k' := by
  unfold bump
  cases hk : tl.lookup k with
  | none =>
    dsimp only
    have : ∀ l : List (Str × Int), (l ++ [(k, 1)]).lookup k' = (l.lookup k').or (if k' = k then some 1 else none) := by
      intro l
      induction l with
      | nil =>
        rw [List.nil_append, List.lookup_cons]
        by_cases q : k' = k
        · subst q; rw [beq_self_eq_true, if_pos rfl]; rfl
        · rw [beq_eq_false_iff_ne.mpr q, if_neg q]; rfl
      | cons p l ih =>
        rw [List.cons_append, List.lookup_cons, List.lookup_cons, ih]
        cases k' == p.1 <;> rfl
    rw [this]
    by_cases q : k' = k
    · subst q; rw [hk, if_pos rfl, if_pos rfl]; rfl
    · rw [if_neg q, if_neg q, Option.or_none]
  | some n =>
    dsimp only
    have : ∀ l : List (Str × Int), (l.map fun p => if p.1 = k then (p.1, n + 1) else p).lookup k' = if k' = k then (l.lookup k).map (fun _ => n + 1) else l.lookup k' := by
      intro l
      induction l with
      | nil => by_cases q : k' = k <;> simp [q]
      | cons p l ih =>
        rw [List.map_cons, List.lookup_cons, List.lookup_cons, List.lookup_cons, ih]
        by_cases h : p.1 = k
        · rw [if_pos h]
          by_cases q : k' = k
          · rw [if_pos q, if_pos q]
            dsimp only
            rw [q, h, beq_self_eq_true]; rfl
          · rw [if_neg q, if_neg q]
            dsimp only
            rw [h, beq_eq_false_iff_ne.mpr q]
        · rw [if_neg h]
          by_cases q : k' = k
          · rw [if_pos q, if_pos q, q, beq_eq_false_iff_ne.mpr (Ne.symm h)]
          · rw [if_neg q, if_neg q]
    rw [this]
    by_cases q : k' = k
    · rw [if_pos q, if_pos q, hk]; rfl
    · rw [if_neg q, if_neg q]
noncomputable def tallyT (l : List Str) (acc : List (Str × Int)) : List (Str × Int) := l.foldl bump acc
theorem tally_look (k : Str) : ∀ (l : List Str) (acc : List (Str × Int)), (tallyT l acc).lookup k = if l.count k = 0 then acc.lookup k else some ((acc.lookup k).getD 0 + (l.count k : Int))
  | [], acc => by rw [List.count_nil, if_pos rfl]; rfl
  | x :: l, acc => by
    show (tallyT l (bump acc x)).lookup k = _
    rw [tally_look k l, bump_look]
    by_cases h : k = x
    · subst h
      rw [if_pos rfl, List.count_cons_self, if_neg (Nat.succ_ne_zero _)]
      split
      · rename_i q
        rw [q]; rfl
      · rw [Option.getD_some]
        congr 1
        omega
    · rw [if_neg h, List.count_cons_of_ne (Ne.symm h)]
theorem tally_keys : ∀ (l : List Str) (acc : List (Str × Int)), (acc.map (·.1)).Nodup → ((tallyT l acc).map (·.1)).Nodup
  | [], acc, h => h
  | x :: l, acc, h => tally_keys l (bump acc x) (bump_keys h).1
theorem look_nodup {k : Str} {n : Int} : ∀ {l : List (Str × Int)}, (l.map (·.1)).Nodup → (k, n) ∈ l → l.lookup k = some n
  | [], _, h => nomatch h
  | p :: l, hn, h => by
    rw [List.map_cons, List.nodup_cons] at hn
    rw [List.lookup_cons]
    rcases List.mem_cons.mp h with rfl | h
    · rw [beq_self_eq_true]
    · have : k ≠ p.1 := fun e => hn.1 (e ▸ List.mem_map.mpr ⟨(k, n), h, rfl⟩)
      rw [beq_eq_false_iff_ne.mpr this]
      exact look_nodup hn.2 h
theorem nodup_le : ∀ {a b : List Str}, a.Nodup → (∀ x ∈ a, x ∈ b) → a.length ≤ b.length
  | [], _, _, _ => Nat.zero_le _
  | x :: a, b, hn, h => by
    rw [List.nodup_cons] at hn
    have p := List.perm_cons_erase (h x (.head _))
    have := nodup_le (a := a) (b := b.erase x) hn.2 fun y hy => (List.mem_erase_of_ne (fun (e : y = x) => hn.1 (e ▸ hy))).mpr (h y (.tail _ hy))
    rw [p.length_eq, List.length_cons, List.length_cons]
    omega
theorem tally_len {l l' : List Str} (p : l.Perm l') : (tallyT l []).length ≤ (tallyT l' []).length := by
  have := nodup_le (a := (tallyT l []).map (·.1)) (b := (tallyT l' []).map (·.1)) (tally_keys l [] List.nodup_nil) fun k hk => by
    obtain ⟨q, hq, e⟩ := List.mem_map.mp hk
    have h1 := look_nodup (k := q.1) (n := q.2) (tally_keys l [] List.nodup_nil) hq
    rw [tally_look, p.count_eq, ← tally_look, e] at h1
    exact List.mem_map.mpr ⟨(k, q.2), lookup_mem h1, rfl⟩
  rw [List.length_map, List.length_map] at this
  exact this
theorem tally_same {l l' : List Str} (p : l.Perm l') : ((tallyT l []).length == (tallyT l' []).length && (tallyT l []).all fun q => (tallyT l' []).lookup q.1 == some q.2) = true := by
  rw [Bool.and_eq_true]
  refine ⟨beq_iff_eq.mpr (Nat.le_antisymm (tally_len p) (tally_len p.symm)), ?_⟩
  rw [List.all_eq_true]
  intro q hq
  have h1 := look_nodup (k := q.1) (n := q.2) (tally_keys l [] List.nodup_nil) hq
  rw [tally_look, p.count_eq, ← tally_look] at h1
  rw [h1]
  exact beq_self_eq_true _
noncomputable def sumI : List (Str × Int) → Int
  | [] => 0
  | p :: l => p.2 + sumI l
theorem total_sum : ∀ (l : List (Str × Int)) (a : Int), l.foldl (fun a p => a + p.2) a = a + sumI l
  | [], a => by simp [sumI]
  | p :: l, a => by
    rw [List.foldl_cons, total_sum l, sumI]; omega
theorem sumI_app : ∀ (l k : List (Str × Int)), sumI (l ++ k) = sumI l + sumI k
  | [], k => by simp [sumI]
  | p :: l, k => by rw [List.cons_append, sumI, sumI, sumI_app l k]; omega
theorem sum_bump {tl : List (Str × Int)} {k : Str} (h : (tl.map (·.1)).Nodup) : sumI (bump tl k) = sumI tl + 1 := by
  unfold bump
  cases hk : tl.lookup k with
  | none =>
    dsimp only
    rw [sumI_app]
    rfl
  | some n =>
    dsimp only
    have id : ∀ l : List (Str × Int), k ∉ l.map (·.1) → (l.map fun p => if p.1 = k then (p.1, n + 1) else p) = l := by
      intro l hl
      induction l with
      | nil => rfl
      | cons p l ih =>
        rw [List.map_cons, List.mem_cons, not_or] at hl
        rw [List.map_cons, if_neg (fun e => hl.1 e.symm), ih hl.2]
    induction tl with
    | nil => cases hk
    | cons p l ih =>
      rw [List.map_cons, List.nodup_cons] at h
      rw [List.lookup_cons] at hk
      by_cases q : k = p.1
      · rw [q, beq_self_eq_true] at hk
        cases hk
        rw [List.map_cons, if_pos q.symm, id l (by rw [q]; exact h.1), sumI, sumI]
        dsimp only
        omega
      · rw [beq_eq_false_iff_ne.mpr q] at hk
        rw [List.map_cons, if_neg (fun e => q e.symm), sumI, sumI, ih h.2 hk]
        omega
theorem sum_tally : ∀ (l : List Str) (acc : List (Str × Int)), (acc.map (·.1)).Nodup → sumI (tallyT l acc) = sumI acc + l.length
  | [], acc, _ => by simp [tallyT]
  | x :: l, acc, h => by
    show sumI (tallyT l (bump acc x)) = _
    rw [sum_tally l _ (bump_keys h).1, sum_bump h, List.length_cons]
    omega
noncomputable abbrev keyL (fl : List Nat) : Str := keyS (grOf fl) fl.length
theorem tallyOf_T (R : List (List Nat)) : tallyOf R = tallyT (R.map keyL) [] := by
  unfold tallyOf tallyT
  rw [List.foldl_map]
theorem total_tally (R : List (List Nat)) : total (tallyOf R) = R.length := by
  unfold total
  rw [total_sum, tallyOf_T, sum_tally _ [] List.nodup_nil, List.length_map]
  simp [sumI]
theorem gr_keyF {fl : List Nat} (h : ∀ n ∈ fl, Sign n) : grOf fl = (fl.filter fun n => decide (n < 97)).length := by
  unfold grOf
  congr 1
  refine List.filter_congr fun n hn => ?_
  obtain ⟨k, hk, rfl | rfl⟩ := h n hn
  · rw [(in_up k hk).1, decide_eq_true (by omega)]
  · rw [(in_up k hk).2, decide_eq_false (by omega)]
theorem keyL_of {fl : List Nat} (h : ∀ n ∈ fl, Sign n) (hl : fl.length ≤ 5) : keyL fl = keyS (keyF fl / 8) (keyF fl % 8) := by
  unfold keyL keyF
  rw [gr_keyF h]
  congr 1 <;> omega

/-! the headers' words -/
noncomputable def l3 : Nat → Nat → List Nat
  | 0, _ => []
  | n + 1, y => match y % 3 with | 0 => l3 n (y / 3) | 1 => (65 + (4 - n)) :: l3 n (y / 3) | _ => (97 + (4 - n)) :: l3 n (y / 3)
theorem re_all : ∀ y < 243, reOk false (tx (l3 5 y)) = true := by decide +kernel
theorem re_txt : ∀ m < 32, reOk true (txt m) = true := by decide +kernel
theorem l3_filter {m : Nat} {p : Nat → Bool} : ∀ n ≤ 5, ∃ y < 3 ^ n, l3 n y = ((List.range' (5 - n) n).map (sgn m)).filter p
  | 0, _ => ⟨0, by decide, rfl⟩
  | n + 1, h => by
    obtain ⟨y, hy, e⟩ := l3_filter (m := m) (p := p) n (by omega)
    have hr : List.range' (5 - (n + 1)) (n + 1) = (4 - n) :: List.range' (5 - n) n := by
      rw [List.range'_succ, show 5 - (n + 1) = 4 - n by omega, show 4 - n + 1 = 5 - n by omega]
    have hp : 3 ^ (n + 1) = 3 * 3 ^ n := by rw [Nat.pow_succ, Nat.mul_comm]
    rw [hr, List.map_cons, List.filter_cons, ← e, hp]
    generalize 3 ^ n = q at hy
    cases hc : p (sgn m (4 - n)) with
    | false =>
      refine ⟨3 * y, by omega, ?_⟩
      show (match 3 * y % 3 with | 0 => l3 n (3 * y / 3) | 1 => (65 + (4 - n)) :: l3 n (3 * y / 3) | _ => (97 + (4 - n)) :: l3 n (3 * y / 3)) = _
      rw [show 3 * y % 3 = 0 by omega, show 3 * y / 3 = y by omega]; rfl
    | true =>
      unfold sgn
      cases hg : m.testBit (4 - (4 - n)) with
      | false =>
        refine ⟨3 * y + 1, by omega, ?_⟩
        show (match (3 * y + 1) % 3 with | 0 => l3 n ((3 * y + 1) / 3) | 1 => (65 + (4 - n)) :: l3 n ((3 * y + 1) / 3) | _ => (97 + (4 - n)) :: l3 n ((3 * y + 1) / 3)) = _
        rw [show (3 * y + 1) % 3 = 1 by omega, show (3 * y + 1) / 3 = y by omega]; rfl
      | true =>
        refine ⟨3 * y + 2, by omega, ?_⟩
        show (match (3 * y + 2) % 3 with | 0 => l3 n ((3 * y + 2) / 3) | 1 => (65 + (4 - n)) :: l3 n ((3 * y + 2) / 3) | _ => (97 + (4 - n)) :: l3 n ((3 * y + 2) / 3)) = _
        rw [show (3 * y + 2) % 3 = 2 by omega, show (3 * y + 2) / 3 = y by omega]; rfl
theorem re_firm (less : Nat → Nat → Bool) (S : List (Nat × Nat × Nat)) (m : Nat) : reOk false (tx (firmL less S m)) = true := by
  obtain ⟨y, hy, e⟩ := l3_filter (m := m) (p := fun ch => !decide (ch ∈ lzOf less S m)) 5 (Nat.le_refl _)
  have : firmL less S m = l3 5 y := e.symm
  rw [this]
  exact re_all y hy

/-! the trees and the sets of a graph -/
noncomputable def dueN (V : Nat) : List Nat := (List.range 32).filter fun i => decide (V / 4 ^ (31 - i) % 4 = 0) && decide ((grs i).length = 3)
theorem gr_len : ∀ i < 32, grOf (sgns i) = (grs i).length := by decide +kernel
theorem dues_ok : ∀ t ∈ tabT, dueN t.1 = t.2.1.map (·.1) := by decide +kernel
theorem sets_ok : ∀ t ∈ tabT, ∀ i < 32, t.2.2.1.testBit (8 * i + (t.1 / 4 ^ (31 - i) % 4 + 1)) = true := by decide +kernel
theorem due_eq {t : Nat × List (Nat × List Nat) × Nat × List Nat} (h : t ∈ tabT) : ((List.range 32).filter fun i => pcV t.1 i == 1 && ((grOf (sgns i) : Nat) : Int) == 3) = t.2.1.map (·.1) := by
  rw [← dues_ok t h]
  refine List.filter_congr fun i hi => ?_
  have hi := List.mem_range.mp hi
  rw [gr_len i hi]
  unfold pcV
  rw [Bool.eq_iff_iff, Bool.and_eq_true, Bool.and_eq_true, beq_iff_eq, beq_iff_eq, decide_eq_true_eq, decide_eq_true_eq]
  omega
theorem steps_len : ∀ t ∈ tabT, (stepsT t.2.1).length ≤ 500 := by decide +kernel

theorem cover_eq {t : Nat × List (Nat × List Nat) × Nat × List Nat} (h : t ∈ tabT) {less : Nat → Nat → Bool} {o : Nat} (O : Ord less o) (hn : (t.2.1.map (·.1)).Nodup) :
    ((t.2.1.map (·.1)).flatMap fun m => setsC m (firmL less (stepsT t.2.1) m)).Perm ((List.range 32).map fun i => (i, pcV t.1 i)) ∧ (((t.2.1.map (·.1)).map (firmL less (stepsT t.2.1))).map keyL).Perm (t.2.2.2.map fun k => keyS (k / 8) (k % 8)) := by
  have hE : ∀ e ∈ t.2.1, Ent e := fun e he => ent_of (ents_ok t h e he)
  have hc := all_ok t h o O.mem
  obtain ⟨c1, c2, c3, c4⟩ := goL_spec o t.2.2.1 t.2.2.2 t.2.1 0 0 [] [] (fun e he => ⟨(hE e he).lt, (hE e he).len⟩) (fun b hb => by rw [Nat.zero_testBit] at hb; cases hb) (fun p hp => nomatch hp) rfl hc
  rw [List.nil_append] at c1 c2 c3
  rw [List.append_nil] at c4
  have e1 : ((t.2.1.map (·.1)).flatMap fun m => setsC m (firmL less (stepsT t.2.1) m)) = t.2.1.flatMap (setsX o) := by
    rw [List.flatMap_map, List.flatMap_def, List.flatMap_def]
    congr 1
    refine List.map_congr_left fun e he => ?_
    rw [firm_eq O hn hE he]
  refine ⟨?_, ?_⟩
  · rw [e1]
    refine perm_of ?_ (fun x hx => ?_) (by rw [c3]; simp)
    · rw [List.nodup_iff_pairwise_ne, List.pairwise_map]
      exact List.nodup_range.imp fun hne e => hne (congrArg Prod.fst e)
    · obtain ⟨i, hi, rfl⟩ := List.mem_map.mp hx
      have hi := List.mem_range.mp hi
      obtain ⟨p, hp, e⟩ := c1 _ (sets_ok t h i hi)
      obtain ⟨p1, p2, p3⟩ := c2 p hp
      have : p = (i, pcV t.1 i) := by
        have hd : t.1 / 4 ^ (31 - i) % 4 < 4 := Nat.mod_lt _ (by decide)
        refine Prod.ext ?_ ?_
        · show p.1 = i
          omega
        · show p.2 = ((t.1 / 4 ^ (31 - i) % 4 : Nat) : Int) + 1
          omega
      rw [← this]
      exact hp
  · have pk : (t.2.1.map (keyX o)).Perm t.2.2.2 := (List.reverse_perm _).symm.trans (List.isPerm_iff.mp c4)
    have e2 : (((t.2.1.map (·.1)).map (firmL less (stepsT t.2.1))).map keyL) = (t.2.1.map (keyX o)).map fun k => keyS (k / 8) (k % 8) := by
      rw [List.map_map, List.map_map, List.map_map]
      refine List.map_congr_left fun e he => ?_
      show keyL (firmL less (stepsT t.2.1) e.1) = keyS (keyX o e / 8) (keyX o e % 8)
      rw [keyL_of (firm_sign _ _ _) (firmL_len _ _ _), firm_eq O hn hE he]
    rw [e2]
    exact pk.map _

theorem the_facts (n0 n1 n2 n3 n4 : Int) : ∃ pc T S, Lawful n0 n1 n2 n3 n4 pc T S := by
  obtain ⟨V, hV, hP⟩ := pieces_vec n0 n1 n2 n3 n4
  rw [← tabT_V] at hV
  obtain ⟨t, ht, rfl⟩ := List.mem_map.mp hV
  have hdue := due_eq ht
  have hn : (t.2.1.map (·.1)).Nodup := by rw [← hdue]; exact List.nodup_range.filter _
  have hE : ∀ e ∈ t.2.1, Ent e := fun e he => ent_of (ents_ok t ht e he)
  obtain ⟨o1, O1⟩ := ord_of n0 n1 n2 n3 n4 1 (.inl rfl)
  obtain ⟨o2, O2⟩ := ord_of n0 n1 n2 n3 n4 (-1) (.inr rfl)
  have C1 := cover_eq ht O1 hn
  have C2 := cover_eq ht O2 hn
  refine ⟨pcV t.1, t.2.1.map (·.1), stepsT t.2.1, ⟨hP, hdue, walk_of ht, ⟨fun s hs => ?_, steps_len t ht⟩, fun less m hm => ⟨?_, re_firm ..⟩, fun d hd => ?_, ?_, ?_⟩⟩
  · obtain ⟨e, he, hx⟩ := List.mem_flatMap.mp hs
    obtain ⟨q0, q1, q2, _⟩ := mem_stepsX.mp hx
    exact ⟨List.mem_map.mpr ⟨e, he, q0.symm⟩, q1, q2⟩
  · obtain ⟨e, he, rfl⟩ := List.mem_map.mp hm
    exact re_txt _ (hE e he).lt
  · rcases hd with rfl | rfl
    · exact C1.1
    · exact C2.1
  · rw [tallyOf_T, tallyOf_T]
    exact tally_same (C2.2.trans C1.2.symm)
  · rw [total_tally]
    show (((t.2.1.map (·.1)).map _).length : Int) = _
    rw [List.length_map]
end Mine

open PySem PySem.W PyProof.Rows PySem.Calls
namespace Mine
theorem gn_law (P : Params) : nsIn (laid P) mainGlobals "law" = some (some (.ref 291)) := by kernel_rfl
theorem caller_ok : callerA.units ≤ 4 + 4 * callerA.depth := by decide
theorem caller_room : callerA.depth < 320 := by decide
theorem st_start {prog : Program} {w : World} {s : Shared} (h : ∃ a o, sysModules ≤ a ∧ s.heap.get? a = some o) : St prog w s.heap [] [] { s with toks := s.toks + 1 } :=
  ⟨fun _ _ e => e, List.nodup_nil, fun a h => (List.not_mem_nil h).elim, fun a h => (List.not_mem_nil h).elim, fun a h => (List.not_mem_nil h).elim, fun p h => (List.not_mem_nil h).elim, Nat.succ_pos _, h⟩
end Mine
namespace Mine
theorem hd {d : DefRec} {kwd : List (Str × Expr)} (hdef : defOf seat PySem.Challenge.rw_pg0272_01.row.name = some (d, kwd))
    (hp : PySem.Challenge.rw_pg0272_01.row.prog.theDef PySem.Challenge.rw_pg0272_01.row.name = some (d.params, d.body, d.scope)) (hk : kwWritten? d.params.kwonlyargs d.params.kw_defaults = some kwd)
    (call : WalkO seat loose (XL seat []) hook.says PySem.Challenge.rw_pg0272_01.row.toRowW d kwd fun f vs => PySem.call f vs) : PySem.Challenge.rw_pg0272_01.Holds := by
  refine holds_law law_said fun said => ?_
  refine holds_open (q := seat) (loose := loose) (Xt := fun s => xlAt seat [] s && recOk [] s) (XP := XL seat []) (Yf := hook.obs) (Ya := hook.val) (YP := hook.says) (N := 3490) left hook.of hook.keeps (fun s e => xl_of s (Bool.and_eq_true_iff.mp e).1) XL.keeps hdef hp hk (fun s e => recFacts_of (Bool.and_eq_true_iff.mp e).2) rfl said (by decide +kernel) ⟨rfl, rfl, rfl, rfl, rfl, by decide +kernel⟩ ?hw call
  case hw => w_witness2
end Mine
open PySem PySem.W PyProof.Rows PySem.Calls
theorem PySem.Challenge.cw_pg0272_01_holds : PySem.Challenge.rw_pg0272_01.Holds := by
  refine Mine.hd rfl rfl rfl ?_
  intro w s₀ s₁ mg mb G Y fa o pm cd doc dV kV ho hd hcd hD hmg hg args vals as hpre hlay hrd hwl hlo
  have KX := kIn_of Y
  refine Ground.open G ?_
  intro T B D TE TW
  wrow_args hpre hlay hrd hwl hlo
  refine enter_call ?_
  have e1 := mg_of KX T.g (Mine.gn_law w.params)
  have e2 : Value.ref fa = .ref 291 := Option.some.inj (hmg.symm.trans e1)
  cases e2
  have G' : Mine.Gd ⟨PySem.Challenge.rw_pg0272_01.row.prog, w, s₁.heap, callerA⟩ := ⟨KX, ⟨mg, mb, T.g, T.b, T.builtins⟩, T.nolimit, rfl, Mine.caller_ok⟩
  refine codeAny_mono (Mine.law_call G' Mine.caller_room (by assumption) (by assumption) (by omega) Mine.the_facts (Mine.st_start ?_)) fun r s' h => ?_
  · exact ⟨291, _, by decide, KX 291 _ rfl⟩
  · obtain ⟨v, rfl, b, τ, hq, r, S', x⟩ := h
    subst hq
    cases r
    refine GoodW.toG ⟨.inl ⟨_, .bool true, [], rfl, fun _ => rfl, .bool true, ?_, unshared_nil⟩, S'.keep, ?_, ?_⟩
    · kc_post
    · rw [x.rest]
    · rw [x.rest]; exact hg

