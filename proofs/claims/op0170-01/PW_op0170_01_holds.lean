import PyProof.Rows.All
import Wide.All
import OpenK.AllK
import Wide.FinOn
import PySem.Challenge.RW_op0170_01
open PySem PySem.W PyProof.Rows
set_option Elab.async false
set_option maxRecDepth 100000
section
open PySem PySem.W PyProof.Rows PySem.Calls
set_option Elab.async false
set_option maxRecDepth 100000
set_option maxHeartbeats 8000000
namespace Mine
noncomputable section
/-! ## what the top leaves behind: the objects that the walk reads, the defs' bodies taken out of the row -/
abbrev tp : Program := PySem.Challenge.rw_op0170_01.row.prog
noncomputable def bodyOf : Stmt → List Stmt
  | .FunctionDef _ _ b _ _ _ _ _ _ _ => b
  | .ClassDef _ _ _ b _ _ _ _ _ _ _ => b
  | _ => []
noncomputable def stAt (b : List Stmt) (i : Nat) : Stmt := b.getD i (.Pass ⟨0, 0, 0, 0⟩)
noncomputable def partsOf : Stmt → Arguments × List Stmt × Scope
  | .FunctionDef _ a b _ _ _ sc _ _ _ => (a, b, sc)
  | _ => default
/-- a def, as the top makes it -/
noncomputable def mkF (p : Arguments × List Stmt × Scope) (name qual : Str) (dfl mod : Value) (code : Addr) : Obj :=
  { cls := .type "function", data := .func { name := name, qualname := qual, params := p.1, body := .stmts p.2.1, scope := p.2.2, globals := 3, closure := [], defaults := dfl, kwdefaults := .none, pyModule := mod, code := .ref code } }
noncomputable def p41S : {x : Arguments × List Stmt × Scope // partsOf (stAt tp.main.body 3) = x} := by
  refine' ⟨_, _⟩
  rotate_left
  conv => lhs; whnf
noncomputable def p50S : {x : Arguments × List Stmt × Scope // partsOf (stAt tp.main.body 6) = x} := by
  refine' ⟨_, _⟩
  rotate_left
  conv => lhs; whnf
noncomputable def p65S : {x : Arguments × List Stmt × Scope // partsOf (stAt (bodyOf (stAt tp.main.body 10)) 1) = x} := by
  refine' ⟨_, _⟩
  rotate_left
  conv => lhs; whnf
noncomputable def p102S : {x : Arguments × List Stmt × Scope // partsOf (stAt (bodyOf (stAt tp.main.body 12)) 0) = x} := by
  refine' ⟨_, _⟩
  rotate_left
  conv => lhs; whnf
noncomputable def p109S : {x : Arguments × List Stmt × Scope // partsOf (stAt (bodyOf (stAt tp.main.body 12)) 1) = x} := by
  refine' ⟨_, _⟩
  rotate_left
  conv => lhs; whnf
noncomputable def p116S : {x : Arguments × List Stmt × Scope // partsOf (stAt (bodyOf (stAt tp.main.body 12)) 2) = x} := by
  refine' ⟨_, _⟩
  rotate_left
  conv => lhs; whnf
noncomputable def p121S : {x : Arguments × List Stmt × Scope // partsOf (stAt (bodyOf (stAt tp.main.body 12)) 3) = x} := by
  refine' ⟨_, _⟩
  rotate_left
  conv => lhs; whnf
noncomputable def p128S : {x : Arguments × List Stmt × Scope // partsOf (stAt (bodyOf (stAt tp.main.body 12)) 4) = x} := by
  refine' ⟨_, _⟩
  rotate_left
  conv => lhs; whnf
noncomputable def p149S : {x : Arguments × List Stmt × Scope // partsOf (stAt (bodyOf (stAt tp.main.body 12)) 7) = x} := by
  refine' ⟨_, _⟩
  rotate_left
  conv => lhs; whnf
noncomputable def p156S : {x : Arguments × List Stmt × Scope // partsOf (stAt (bodyOf (stAt tp.main.body 12)) 8) = x} := by
  refine' ⟨_, _⟩
  rotate_left
  conv => lhs; whnf
noncomputable def p175S : {x : Arguments × List Stmt × Scope // partsOf (stAt tp.main.body 14) = x} := by
  refine' ⟨_, _⟩
  rotate_left
  conv => lhs; whnf
noncomputable def p180S : {x : Arguments × List Stmt × Scope // partsOf (stAt tp.main.body 15) = x} := by
  refine' ⟨_, _⟩
  rotate_left
  conv => lhs; whnf
noncomputable def p187S : {x : Arguments × List Stmt × Scope // partsOf (stAt tp.main.body 16) = x} := by
  refine' ⟨_, _⟩
  rotate_left
  conv => lhs; whnf
noncomputable def p194S : {x : Arguments × List Stmt × Scope // partsOf (stAt tp.main.body 17) = x} := by
  refine' ⟨_, _⟩
  rotate_left
  conv => lhs; whnf
noncomputable def p199S : {x : Arguments × List Stmt × Scope // partsOf (stAt tp.main.body 18) = x} := by
  refine' ⟨_, _⟩
  rotate_left
  conv => lhs; whnf
noncomputable def p204S : {x : Arguments × List Stmt × Scope // partsOf (stAt tp.main.body 19) = x} := by
  refine' ⟨_, _⟩
  rotate_left
  conv => lhs; whnf
noncomputable def topK (P : Params) : Frag :=
  [(2, { cls := Value.none, data := Data.dict #[] }),
   (3, { cls := Value.type "dict", data := Data.dict #[{ hash := PyData.keyHash P (Str.ofString "__name__"), key := Value.str (Str.ofString "__name__") 165, val := Value.str (Str.ofString "law_op0170_01") 419 }, { hash := PyData.keyHash P (Str.ofString "__doc__"), key := Value.str (Str.ofString "__doc__") 166, val := Value.none }, { hash := PyData.keyHash P (Str.ofString "__package__"), key := Value.str (Str.ofString "__package__") 167, val := Value.none }, { hash := PyData.keyHash P (Str.ofString "__loader__"), key := Value.str (Str.ofString "__loader__") 168, val := Value.builtin "__main__.__loader__#opaque" }, { hash := PyData.keyHash P (Str.ofString "__spec__"), key := Value.str (Str.ofString "__spec__") 169, val := Value.none }, { hash := PyData.keyHash P (Str.ofString "__annotations__"), key := Value.str (Str.ofString "__annotations__") 170, val := Value.ref 6 }, { hash := PyData.keyHash P (Str.ofString "__builtins__"), key := Value.str (Str.ofString "__builtins__") 171, val := Value.ref 4 }, { hash := PyData.keyHash P (Str.ofString "__file__"), key := Value.str (Str.ofString "__file__") 173, val := Value.str (Str.ofString "/claim/cut.py") 172 }, { hash := PyData.keyHash P (Str.ofString "__cached__"), key := Value.str (Str.ofString "__cached__") 174, val := Value.none }, { hash := PyData.keyHash P (Str.ofString "_wall"), key := Value.str (Str.ofString "_wall") 193, val := Value.ref 21 }, { hash := PyData.keyHash P (Str.ofString "StatisticsError"), key := Value.str (Str.ofString "StatisticsError") 213, val := Value.ref 31 }, { hash := PyData.keyHash P (Str.ofString "median_low"), key := Value.str (Str.ofString "median_low") 221, val := Value.ref 41 }, { hash := PyData.keyHash P (Str.ofString "_initial_missing"), key := Value.str (Str.ofString "_initial_missing") 224, val := Value.ref 42 }, { hash := PyData.keyHash P (Str.ofString "reduce"), key := Value.str (Str.ofString "reduce") 236, val := Value.ref 50 }, { hash := PyData.keyHash P (Str.ofString "_NODE_OUT"), key := Value.str (Str.ofString "_NODE_OUT") 241, val := Value.int (-1) 240 }, { hash := PyData.keyHash P (Str.ofString "_NODE_DONE"), key := Value.str (Str.ofString "_NODE_DONE") 244, val := Value.int (-2) 243 }, { hash := PyData.keyHash P (Str.ofString "_NodeInfo"), key := Value.str (Str.ofString "_NodeInfo") 281, val := Value.ref 69 }, { hash := PyData.keyHash P (Str.ofString "CycleError"), key := Value.str (Str.ofString "CycleError") 299, val := Value.ref 84 }, { hash := PyData.keyHash P (Str.ofString "TopologicalSorter"), key := Value.str (Str.ofString "TopologicalSorter") 418, val := Value.ref 166 }, { hash := PyData.keyHash P (Str.ofString "_law_plan"), key := Value.str (Str.ofString "_law_plan") 426, val := Value.ref 175 }, { hash := PyData.keyHash P (Str.ofString "_law_run"), key := Value.str (Str.ofString "_law_run") 432, val := Value.ref 180 }, { hash := PyData.keyHash P (Str.ofString "_law_ways"), key := Value.str (Str.ofString "_law_ways") 447, val := Value.ref 187 }, { hash := PyData.keyHash P (Str.ofString "_law_through"), key := Value.str (Str.ofString "_law_through") 455, val := Value.ref 194 }, { hash := PyData.keyHash P (Str.ofString "_law_marks"), key := Value.str (Str.ofString "_law_marks") 461, val := Value.ref 199 }, { hash := PyData.keyHash P (Str.ofString "law"), key := Value.str (Str.ofString "law") 467, val := Value.ref 204 }] 25 }),
   (40, { cls := Value.type "code", data := Data.fields #[Value.str (Str.ofString "median_low") 214, Value.str (Str.ofString "median_low") 215, Value.str (Str.ofString "/claim/cut.py") 216, Value.int 7 0, Value.int 1 0, Value.int 0 0, Value.int 0 0, Value.int 3 0, Value.ref 35, Value.bool true, Value.int 181 0, Value.ref 36, Value.none, Value.ref 37, Value.ref 38, Value.ref 39, Value.int 219 0, Value.int 7 0, Value.str (Str.ofString "/claim/cut.py") 220] }),
   (41, mkF p41S.1 (Str.ofString "median_low") (Str.ofString "median_low") (Value.none) (Value.str (Str.ofString "cpy313.statistics") 194) 40),
   (42, { cls := Value.type "object" }),
   (43, { cls := Value.type "tuple", data := Data.seq #[Value.ref 42] }),
   (49, { cls := Value.type "code", data := Data.fields #[Value.str (Str.ofString "reduce") 225, Value.str (Str.ofString "reduce") 226, Value.str (Str.ofString "/claim/cut.py") 227, Value.int 18 0, Value.int 3 0, Value.int 0 0, Value.int 0 0, Value.int 3 0, Value.ref 44, Value.bool true, Value.int 181 0, Value.ref 45, Value.none, Value.ref 46, Value.ref 47, Value.ref 48, Value.int 234 0, Value.int 18 0, Value.str (Str.ofString "/claim/cut.py") 235] }),
   (50, mkF p50S.1 (Str.ofString "reduce") (Str.ofString "reduce") (Value.ref 43) (Value.str (Str.ofString "cpy313.functools") 222) 49),
   (64, { cls := Value.type "code", data := Data.fields #[Value.str (Str.ofString "__init__") 261, Value.str (Str.ofString "_NodeInfo.__init__") 262, Value.str (Str.ofString "/claim/cut.py") 263, Value.int 36 0, Value.int 2 0, Value.int 0 0, Value.int 0 0, Value.int 3 0, Value.ref 59, Value.bool true, Value.int 181 0, Value.ref 60, Value.none, Value.ref 61, Value.ref 62, Value.ref 63, Value.int 266 0, Value.int 36 0, Value.str (Str.ofString "/claim/cut.py") 267] }),
   (65, mkF p65S.1 (Str.ofString "__init__") (Str.ofString "_NodeInfo.__init__") (Value.none) (Value.str (Str.ofString "cpy313.graphlib") 237) 64),
   (68, { cls := Value.type "dict", data := Data.dict #[{ hash := PyData.keyHash P (Str.ofString "__module__"), key := Value.str (Str.ofString "__module__") 252, val := Value.str (Str.ofString "cpy313.graphlib") 237 }, { hash := PyData.keyHash P (Str.ofString "__firstlineno__"), key := Value.str (Str.ofString "__firstlineno__") 256, val := Value.int 33 255 }, { hash := PyData.keyHash P (Str.ofString "__slots__"), key := Value.str (Str.ofString "__slots__") 260, val := Value.ref 58 }, { hash := PyData.keyHash P (Str.ofString "__init__"), key := Value.str (Str.ofString "__init__") 268, val := Value.ref 65 }, { hash := PyData.keyHash P (Str.ofString "__static_attributes__"), key := Value.str (Str.ofString "__static_attributes__") 272, val := Value.ref 66 }, { hash := PyData.keyHash P (Str.ofString "node"), key := Value.str (Str.ofString "node") 274, val := Value.ref 70 }, { hash := PyData.keyHash P (Str.ofString "npredecessors"), key := Value.str (Str.ofString "npredecessors") 276, val := Value.ref 71 }, { hash := PyData.keyHash P (Str.ofString "successors"), key := Value.str (Str.ofString "successors") 278, val := Value.ref 72 }, { hash := PyData.keyHash P (Str.ofString "__doc__"), key := Value.str (Str.ofString "__doc__") 279, val := Value.none }] 5 }),
   (69, { cls := Value.type "type", data := Data.cls { name := Str.ofString "_NodeInfo", bases := [Value.type "object"], mro := [Value.ref 69, Value.type "object"], ns := 68, qualname := Str.ofString "_NodeInfo", hasDict := false, slotNames := [Str.ofString "node", Str.ofString "npredecessors", Str.ofString "successors"] }, slots := #[none, none, some (Value.str (Str.ofString "_NodeInfo") 245), some (Value.str (Str.ofString "_NodeInfo") 253), some (Value.builtin "object.__new__"), some (Value.bool false)] }),
   (70, { cls := Value.type "member_descriptor", data := Data.fields #[Value.str (Str.ofString "node") 273, Value.ref 69, Value.builtin "proto.slot", Value.builtin "proto.slot#set", Value.int 2 0] }),
   (71, { cls := Value.type "member_descriptor", data := Data.fields #[Value.str (Str.ofString "npredecessors") 275, Value.ref 69, Value.builtin "proto.slot", Value.builtin "proto.slot#set", Value.int 1 0] }),
   (72, { cls := Value.type "member_descriptor", data := Data.fields #[Value.str (Str.ofString "successors") 277, Value.ref 69, Value.builtin "proto.slot", Value.builtin "proto.slot#set", Value.int 0 0] }),
   (95, { cls := Value.type "tuple", data := Data.seq #[Value.none] }),
   (101, { cls := Value.type "code", data := Data.fields #[Value.str (Str.ofString "__init__") 312, Value.str (Str.ofString "TopologicalSorter.__init__") 313, Value.str (Str.ofString "/claim/cut.py") 314, Value.int 44 0, Value.int 2 0, Value.int 0 0, Value.int 0 0, Value.int 3 0, Value.ref 96, Value.bool true, Value.int 181 0, Value.ref 97, Value.none, Value.ref 98, Value.ref 99, Value.ref 100, Value.int 319 0, Value.int 44 0, Value.str (Str.ofString "/claim/cut.py") 320] }),
   (102, mkF p102S.1 (Str.ofString "__init__") (Str.ofString "TopologicalSorter.__init__") (Value.ref 95) (Value.str (Str.ofString "cpy313.graphlib") 237) 101),
   (108, { cls := Value.type "code", data := Data.fields #[Value.str (Str.ofString "_get_nodeinfo") 322, Value.str (Str.ofString "TopologicalSorter._get_nodeinfo") 323, Value.str (Str.ofString "/claim/cut.py") 324, Value.int 53 0, Value.int 2 0, Value.int 0 0, Value.int 0 0, Value.int 3 0, Value.ref 103, Value.bool true, Value.int 181 0, Value.ref 104, Value.none, Value.ref 105, Value.ref 106, Value.ref 107, Value.int 328 0, Value.int 53 0, Value.str (Str.ofString "/claim/cut.py") 329] }),
   (109, mkF p109S.1 (Str.ofString "_get_nodeinfo") (Str.ofString "TopologicalSorter._get_nodeinfo") (Value.none) (Value.str (Str.ofString "cpy313.graphlib") 237) 108),
   (115, { cls := Value.type "code", data := Data.fields #[Value.str (Str.ofString "add") 331, Value.str (Str.ofString "TopologicalSorter.add") 332, Value.str (Str.ofString "/claim/cut.py") 333, Value.int 58 0, Value.int 2 0, Value.int 0 0, Value.int 0 0, Value.int 7 0, Value.ref 110, Value.bool true, Value.int 181 0, Value.ref 111, Value.none, Value.ref 112, Value.ref 113, Value.ref 114, Value.int 340 0, Value.int 58 0, Value.str (Str.ofString "/claim/cut.py") 341] }),
   (116, mkF p116S.1 (Str.ofString "add") (Str.ofString "TopologicalSorter.add") (Value.none) (Value.str (Str.ofString "cpy313.graphlib") 237) 115),
   (120, { cls := Value.type "code", data := Data.fields #[Value.str (Str.ofString "prepare") 343, Value.str (Str.ofString "TopologicalSorter.prepare") 344, Value.str (Str.ofString "/claim/cut.py") 345, Value.int 67 0, Value.int 1 0, Value.int 0 0, Value.int 0 0, Value.int 3 0, Value.ref 117, Value.bool true, Value.int 181 0, Value.ref 118, Value.none, Value.none, Value.none, Value.ref 119, Value.int 346 0, Value.int 67 0, Value.str (Str.ofString "/claim/cut.py") 347] }),
   (121, mkF p121S.1 (Str.ofString "prepare") (Str.ofString "TopologicalSorter.prepare") (Value.none) (Value.str (Str.ofString "cpy313.graphlib") 237) 120),
   (127, { cls := Value.type "code", data := Data.fields #[Value.str (Str.ofString "get_ready") 349, Value.str (Str.ofString "TopologicalSorter.get_ready") 350, Value.str (Str.ofString "/claim/cut.py") 351, Value.int 75 0, Value.int 1 0, Value.int 0 0, Value.int 0 0, Value.int 3 0, Value.ref 122, Value.bool true, Value.int 181 0, Value.ref 123, Value.none, Value.ref 124, Value.ref 125, Value.ref 126, Value.int 356 0, Value.int 75 0, Value.str (Str.ofString "/claim/cut.py") 357] }),
   (128, mkF p128S.1 (Str.ofString "get_ready") (Str.ofString "TopologicalSorter.get_ready") (Value.none) (Value.str (Str.ofString "cpy313.graphlib") 237) 127),
   (148, { cls := Value.type "code", data := Data.fields #[Value.str (Str.ofString "done") 373, Value.str (Str.ofString "TopologicalSorter.done") 374, Value.str (Str.ofString "/claim/cut.py") 375, Value.int 94 0, Value.int 1 0, Value.int 0 0, Value.int 0 0, Value.int 7 0, Value.ref 143, Value.bool true, Value.int 181 0, Value.ref 144, Value.none, Value.ref 145, Value.ref 146, Value.ref 147, Value.int 384 0, Value.int 94 0, Value.str (Str.ofString "/claim/cut.py") 385] }),
   (149, mkF p149S.1 (Str.ofString "done") (Str.ofString "TopologicalSorter.done") (Value.none) (Value.str (Str.ofString "cpy313.graphlib") 237) 148),
   (155, { cls := Value.type "code", data := Data.fields #[Value.str (Str.ofString "_find_cycle") 387, Value.str (Str.ofString "TopologicalSorter._find_cycle") 388, Value.str (Str.ofString "/claim/cut.py") 389, Value.int 117 0, Value.int 1 0, Value.int 0 0, Value.int 0 0, Value.int 3 0, Value.ref 150, Value.bool true, Value.int 181 0, Value.ref 151, Value.none, Value.ref 152, Value.ref 153, Value.ref 154, Value.int 397 0, Value.int 117 0, Value.str (Str.ofString "/claim/cut.py") 398] }),
   (156, mkF p156S.1 (Str.ofString "_find_cycle") (Str.ofString "TopologicalSorter._find_cycle") (Value.none) (Value.str (Str.ofString "cpy313.graphlib") 237) 155),
   (165, { cls := Value.type "dict", data := Data.dict #[{ hash := PyData.keyHash P (Str.ofString "__module__"), key := Value.str (Str.ofString "__module__") 307, val := Value.str (Str.ofString "cpy313.graphlib") 237 }, { hash := PyData.keyHash P (Str.ofString "__firstlineno__"), key := Value.str (Str.ofString "__firstlineno__") 311, val := Value.int 42 310 }, { hash := PyData.keyHash P (Str.ofString "__init__"), key := Value.str (Str.ofString "__init__") 321, val := Value.ref 102 }, { hash := PyData.keyHash P (Str.ofString "_get_nodeinfo"), key := Value.str (Str.ofString "_get_nodeinfo") 330, val := Value.ref 109 }, { hash := PyData.keyHash P (Str.ofString "add"), key := Value.str (Str.ofString "add") 342, val := Value.ref 116 }, { hash := PyData.keyHash P (Str.ofString "prepare"), key := Value.str (Str.ofString "prepare") 348, val := Value.ref 121 }, { hash := PyData.keyHash P (Str.ofString "get_ready"), key := Value.str (Str.ofString "get_ready") 358, val := Value.ref 128 }, { hash := PyData.keyHash P (Str.ofString "is_active"), key := Value.str (Str.ofString "is_active") 365, val := Value.ref 135 }, { hash := PyData.keyHash P (Str.ofString "__bool__"), key := Value.str (Str.ofString "__bool__") 372, val := Value.ref 142 }, { hash := PyData.keyHash P (Str.ofString "done"), key := Value.str (Str.ofString "done") 386, val := Value.ref 149 }, { hash := PyData.keyHash P (Str.ofString "_find_cycle"), key := Value.str (Str.ofString "_find_cycle") 399, val := Value.ref 156 }, { hash := PyData.keyHash P (Str.ofString "static_order"), key := Value.str (Str.ofString "static_order") 406, val := Value.ref 163 }, { hash := PyData.keyHash P (Str.ofString "__static_attributes__"), key := Value.str (Str.ofString "__static_attributes__") 411, val := Value.ref 164 }, { hash := PyData.keyHash P (Str.ofString "__dict__"), key := Value.str (Str.ofString "__dict__") 413, val := Value.ref 167 }, { hash := PyData.keyHash P (Str.ofString "__weakref__"), key := Value.str (Str.ofString "__weakref__") 415, val := Value.ref 168 }, { hash := PyData.keyHash P (Str.ofString "__doc__"), key := Value.str (Str.ofString "__doc__") 416, val := Value.none }] 4 }),
   (166, { cls := Value.type "type", data := Data.cls { name := Str.ofString "TopologicalSorter", bases := [Value.type "object"], mro := [Value.ref 166, Value.type "object"], ns := 165, qualname := Str.ofString "TopologicalSorter" }, slots := #[none, none, some (Value.str (Str.ofString "TopologicalSorter") 300), some (Value.str (Str.ofString "TopologicalSorter") 308), some (Value.builtin "object.__new__"), some (Value.bool true)] }),
   (167, { cls := Value.type "getset_descriptor", data := Data.fields #[Value.str (Str.ofString "__dict__") 412, Value.ref 166, Value.builtin "function.__dict__", Value.builtin "function.__dict__#set"] }),
   (168, { cls := Value.type "getset_descriptor", data := Data.fields #[Value.str (Str.ofString "__weakref__") 414, Value.ref 166, Value.builtin "ExceptionGroup.__weakref__", Value.none] }),
   (174, { cls := Value.type "code", data := Data.fields #[Value.str (Str.ofString "_law_plan") 421, Value.str (Str.ofString "_law_plan") 422, Value.str (Str.ofString "/claim/cut.py") 423, Value.int 149 0, Value.int 1 0, Value.int 0 0, Value.int 0 0, Value.int 3 0, Value.ref 171, Value.bool true, Value.int 181 0, Value.ref 172, Value.none, Value.none, Value.none, Value.ref 173, Value.int 424 0, Value.int 149 0, Value.str (Str.ofString "/claim/cut.py") 425] }),
   (175, mkF p175S.1 (Str.ofString "_law_plan") (Str.ofString "_law_plan") (Value.none) (Value.str (Str.ofString "law_op0170_01") 419) 174),
   (179, { cls := Value.type "code", data := Data.fields #[Value.str (Str.ofString "_law_run") 427, Value.str (Str.ofString "_law_run") 428, Value.str (Str.ofString "/claim/cut.py") 429, Value.int 160 0, Value.int 3 0, Value.int 0 0, Value.int 0 0, Value.int 3 0, Value.ref 176, Value.bool true, Value.int 181 0, Value.ref 177, Value.none, Value.none, Value.none, Value.ref 178, Value.int 430 0, Value.int 160 0, Value.str (Str.ofString "/claim/cut.py") 431] }),
   (180, mkF p180S.1 (Str.ofString "_law_run") (Str.ofString "_law_run") (Value.none) (Value.str (Str.ofString "law_op0170_01") 419) 179),
   (186, { cls := Value.type "code", data := Data.fields #[Value.str (Str.ofString "_law_ways") 433, Value.str (Str.ofString "_law_ways") 434, Value.str (Str.ofString "/claim/cut.py") 435, Value.int 175 0, Value.int 2 0, Value.int 0 0, Value.int 0 0, Value.int 3 0, Value.ref 181, Value.bool true, Value.int 181 0, Value.ref 182, Value.none, Value.ref 183, Value.ref 184, Value.ref 185, Value.int 445 0, Value.int 175 0, Value.str (Str.ofString "/claim/cut.py") 446] }),
   (187, mkF p187S.1 (Str.ofString "_law_ways") (Str.ofString "_law_ways") (Value.none) (Value.str (Str.ofString "law_op0170_01") 419) 186),
   (193, { cls := Value.type "code", data := Data.fields #[Value.str (Str.ofString "_law_through") 448, Value.str (Str.ofString "_law_through") 449, Value.str (Str.ofString "/claim/cut.py") 450, Value.int 182 0, Value.int 2 0, Value.int 0 0, Value.int 0 0, Value.int 3 0, Value.ref 188, Value.bool true, Value.int 181 0, Value.ref 189, Value.none, Value.ref 190, Value.ref 191, Value.ref 192, Value.int 453 0, Value.int 182 0, Value.str (Str.ofString "/claim/cut.py") 454] }),
   (194, mkF p194S.1 (Str.ofString "_law_through") (Str.ofString "_law_through") (Value.none) (Value.str (Str.ofString "law_op0170_01") 419) 193),
   (198, { cls := Value.type "code", data := Data.fields #[Value.str (Str.ofString "_law_marks") 456, Value.str (Str.ofString "_law_marks") 457, Value.str (Str.ofString "/claim/cut.py") 458, Value.int 184 0, Value.int 2 0, Value.int 0 0, Value.int 0 0, Value.int 3 0, Value.ref 195, Value.bool true, Value.int 181 0, Value.ref 196, Value.none, Value.none, Value.none, Value.ref 197, Value.int 459 0, Value.int 184 0, Value.str (Str.ofString "/claim/cut.py") 460] }),
   (199, mkF p199S.1 (Str.ofString "_law_marks") (Str.ofString "_law_marks") (Value.none) (Value.str (Str.ofString "law_op0170_01") 419) 198),
   (203, { cls := Value.type "code", data := Data.fields #[Value.str (Str.ofString "law") 462, Value.str (Str.ofString "law") 463, Value.str (Str.ofString "/claim/cut.py") 464, Value.int 194 0, Value.int 1 0, Value.int 0 0, Value.int 0 0, Value.int 3 0, Value.ref 200, Value.bool true, Value.int 181 0, Value.ref 201, Value.none, Value.none, Value.none, Value.ref 202, Value.int 465 0, Value.int 194 0, Value.str (Str.ofString "/claim/cut.py") 466] }),
   (204, mkF p204S.1 (Str.ofString "law") (Str.ofString "law") (Value.none) (Value.str (Str.ofString "law_op0170_01") 419) 203)]
end
end Mine
end
section
open PySem PySem.W PyProof.Rows PySem.Calls
set_option Elab.async false
set_option maxRecDepth 100000
set_option maxHeartbeats 0
namespace Mine
noncomputable section
/-! ## the head: the top is run once, by the kernel -/
abbrev vw : Program := view tp [0, 2, 3, 5, 8, 9, 10, 11, 12, 14, 15, 16, 17, 18, 19]
abbrev loN : List Str := [Str.ofString "_initial_missing", Str.ofString "reduce", Str.ofString "_NodeInfo"]
abbrev topAs : List Addr := [2, 3, 40, 41, 42, 43, 49, 50, 64, 65, 68, 69, 70, 71, 72, 95, 101, 102, 108, 109, 115, 116, 120, 121, 127, 128, 148, 149, 155, 156, 165, 166, 167, 168, 174, 175, 179, 180, 186, 187, 193, 194, 198, 199, 203, 204]
theorem topAs_eq : ∀ P, topAs = (topK P).map (·.1) := fun _ => by kernel_rfl
abbrev topH : Hook := kmHook topK topAs topAs_eq [196, 177]
abbrev rwW : RowW := PySem.Challenge.rw_op0170_01.row.toRowW
abbrev topX (s : Shared) : Bool := xlAt vw [] s && recOk (RowW.records rwW) s
theorem top_said : OpenLaw.wellSaid PySem.Challenge.rw_op0170_01 = true := by
  rw [PySem.W.Fast.te9446332074065402090]
  kernel_rfl
theorem top_left : LeftO tp vw loN topX (Hook.obs topH) (Hook.val topH) 3164 := by
  intro w
  unfold openEnds fencedOpening topFrom
  -- the library's own twins of topRun, importEnds, treeTable, fenceModules?, openSeen: the kernel runs them faster
  rw [PySem.W.Fast.te14082659384304107361, PySem.W.Fast.te10274390034422433532, PySem.W.Fast.te14364793385576792824, PySem.W.Fast.te14289696077712309145, PySem.W.Fast.te4187177175401517315]
  kernel_rfl
def lawD : DefRec := { name := Str.ofString "law", params := (partsOf (stAt tp.main.body 19)).1, body := (partsOf (stAt tp.main.body 19)).2.1, scope := (partsOf (stAt tp.main.body 19)).2.2, pos := ⟨194, 0, 205, 86⟩ }
theorem law_def : defOf vw PySem.Challenge.rw_op0170_01.row.name = some (lawD, []) := by kernel_rfl
theorem head (walk : WalkO vw loN (XL vw []) topH.says rwW lawD [] fun f vs => PySem.call f vs) : PySem.Challenge.rw_op0170_01.Holds := by
  refine holds_law top_said fun said => ?_
  refine holds_open (q := vw) (loose := loN) (Xt := topX) (XP := XL vw []) (Yf := Hook.obs topH) (Ya := Hook.val topH) (YP := Hook.says topH) (N := 3164) top_left (Hook.of topH) (Hook.keeps topH) (fun s e => xl_of s (Bool.and_eq_true_iff.mp e).1) XL.keeps law_def (by kernel_rfl) (by kernel_rfl) (fun s e => recFacts_of (Bool.and_eq_true_iff.mp e).2) (by kernel_rfl) said (by kernel_rfl) ⟨rfl, rfl, rfl, rfl, rfl, by decide +kernel⟩ ?hw walk
  w_witness2
end
end Mine
end
section
open PySem PySem.W PyProof.Rows PySem.Calls
namespace Mine
/-! ## a postcondition hidden behind a variable: the terms stay small -/
section
variable {α β : Type} {M : Model} {A : Around} {C : Sem α} {s : Shared} {E E₁ E₂ : Value → Shared → Prop}
theorem gen_post {Q : α → Shared → Prop} (h : ∀ (Q' : α → Shared → Prop) (E' : Value → Shared → Prop), (∀ f s, Q f s → Q' f s) → wpAny M A C Q' E' s) : wpAny M A C Q E s := h Q E fun _ _ x => x
theorem gen_turn {C₂ : Sem β} {Q : β → Shared → Prop} (h : ∀ (Q' : β → Shared → Prop) (E' E'' : Value → Shared → Prop), (∀ f s, Q f s → Q' f s) → wpAny M A C (fun _ s₂ => wpAny M A C₂ Q' E'' s₂) E' s) :
    wpAny M A C (fun _ s₂ => wpAny M A C₂ Q E₂ s₂) E₁ s := h Q E₁ E₂ fun _ _ x => x
end
end Mine
end
section
open PySem PySem.W PyProof.Rows PySem.Calls
set_option Elab.async false
set_option maxRecDepth 100000
namespace Mine

/-! ## heaps and states -/
noncomputable abbrev pg : Program := PySem.Challenge.rw_op0170_01.row.prog
noncomputable abbrev Own := List (Addr × (Obj → Prop))

noncomputable def Sub (h h' : Heap) : Prop := ∀ b o, h.get? b = some o → h'.get? b = some o
theorem Sub.refl (h : Heap) : Sub h h := fun _ _ e => e
theorem Sub.trans {a b c : Heap} (x : Sub a b) (y : Sub b c) : Sub a c := fun _ _ e => y _ _ (x _ _ e)

noncomputable def hideObj (as : List Addr) (i : Nat) (o : Obj) : Obj := if as.contains i then { o with data := .freed } else o
noncomputable def hide (h : Heap) (as : List Addr) : Heap := ⟨h.objs.mapIdx (hideObj as), h.life⟩
theorem get?_hide_mem {h : Heap} {as : List Addr} {b : Addr} (hb : b ∈ as) : (hide h as).get? b = none := by
  unfold hide Heap.get?
  rw [Array.getElem?_mapIdx]
  cases h.objs[b]? with
  | none => rfl
  | some o => simp [hideObj, hb]
theorem get?_hide {h : Heap} {as : List Addr} {b : Addr} (hb : b ∉ as) : (hide h as).get? b = h.get? b := by
  unfold hide Heap.get?
  simp only [Array.getElem?_mapIdx]
  cases h.objs[b]? with
  | none => rfl
  | some o => simp [hideObj, hb]
theorem size_hide (h : Heap) (as : List Addr) : (hide h as).objs.size = h.objs.size := by simp [hide]

structure St (B : Shared) (F : Heap) (own : Own) (s : Shared) : Prop where
  gens : s.gens = B.gens
  os : s.os = B.os
  dr : s.drawn = B.drawn
  fz : Sub F s.heap
  ow : ∀ p ∈ own, F.get? p.1 = none ∧ ∃ o, s.heap.get? p.1 = some o ∧ p.2 o
  nd : (own.map (·.1)).Nodup

section
variable {B : Shared} {F F' : Heap} {own own' : Own} {s : Shared} {a b : Addr} {P P' : Obj → Prop} {h' : Heap}

theorem St.tok (S : St B F own s) (t : Nat) : St B F own { s with toks := t } := ⟨S.gens, S.os, S.dr, S.fz, S.ow, S.nd⟩
/-- all that stood stands; other objects may be new -/
theorem St.keeps (S : St B F own s) (k : Sub s.heap h') (t : Nat) : St B F own { s with heap := h', toks := t } :=
  ⟨S.gens, S.os, S.dr, S.fz.trans k, fun p hp => let ⟨x, o, e, q⟩ := S.ow p hp; ⟨x, o, k _ _ e, q⟩, S.nd⟩
theorem St.rebase (S : St B F own s) : ∃ F', Sub F F' ∧ St B F' own s ∧ ∀ b o, s.heap.get? b = some o → b ∉ own.map (·.1) → F'.get? b = some o := by
  refine ⟨hide s.heap (own.map (·.1)), fun b o e => ?_, ⟨S.gens, S.os, S.dr, fun b o e => ?_, fun p hp => ⟨get?_hide_mem (List.mem_map_of_mem hp), (S.ow p hp).2⟩, S.nd⟩, fun b o e hb => by rw [get?_hide hb]; exact e⟩
  · rw [get?_hide]
    · exact S.fz _ _ e
    · intro hm
      obtain ⟨p, hp, rfl⟩ := List.mem_map.mp hm
      have := (S.ow p hp).1
      rw [e] at this; cases this
  · by_cases hb : b ∈ own.map (·.1)
    · rw [get?_hide_mem hb] at e; cases e
    · rw [get?_hide hb] at e; exact e
theorem St.pop (S : St B F ((a, P) :: own) s) : St B F own s := ⟨S.gens, S.os, S.dr, S.fz, fun p hp => S.ow p (.tail _ hp), (List.nodup_cons.mp S.nd).2⟩
theorem St.head (S : St B F ((a, P) :: own) s) : ∃ o, s.heap.get? a = some o ∧ P o := (S.ow _ (.head _)).2
theorem St.weak (S : St B F ((a, P) :: own) s) (hP : ∀ o, P o → P' o) : St B F ((a, P') :: own) s :=
  ⟨S.gens, S.os, S.dr, S.fz, fun p hp => by
    rcases List.mem_cons.mp hp with rfl | hp
    · obtain ⟨x, o, e, q⟩ := S.ow _ (.head _); exact ⟨x, o, e, hP o q⟩
    · exact S.ow p (.tail _ hp), S.nd⟩
theorem St.swap {b : Addr} {P' : Obj → Prop} (S : St B F ((a, P) :: (b, P') :: own) s) : St B F ((b, P') :: (a, P) :: own) s :=
  ⟨S.gens, S.os, S.dr, S.fz, fun p hp => S.ow p (by
    rcases List.mem_cons.mp hp with rfl | hp
    · exact .tail _ (.head _)
    · rcases List.mem_cons.mp hp with rfl | hp
      · exact .head _
      · exact .tail _ (.tail _ hp)), (List.Perm.nodup_iff (List.Perm.swap ..)).mp S.nd⟩
theorem St.perm (S : St B F own s) (hp : own'.Perm own) : St B F own' s :=
  ⟨S.gens, S.os, S.dr, S.fz, fun p hx => S.ow p (hp.mem_iff.mp hx), (hp.map (·.1)).nodup_iff.mpr S.nd⟩
theorem St.notin (S : St B F own s) (h : s.heap.objs.size ≤ a) : a ∉ own.map (·.1) := by
  intro hm
  obtain ⟨p, hp, e'⟩ := List.mem_map.mp hm
  obtain ⟨_, o, eo, _⟩ := S.ow p hp
  have e2 : p.1 = a := e'
  exact absurd (Heap.lt_size (e2 ▸ eo)) (Nat.not_lt.mpr h)
/-- a fresh object, owned -/
theorem St.alloc (S : St B F own s) {o : Obj} (hf : o.isFreed = false) (ho : P o) : St B F ((s.heap.objs.size, P) :: own) { s with heap := s.heap.push o } := by
  have k : Sub s.heap (s.heap.push o) := fun b o' e => Heap.get?_push_of_some _ e
  refine ⟨S.gens, S.os, S.dr, S.fz.trans k, fun p hp => ?_, List.nodup_cons.mpr ⟨fun hm => ?_, S.nd⟩⟩
  · rcases List.mem_cons.mp hp with rfl | hp
    · refine ⟨?_, o, Heap.get?_push_size _ hf, ho⟩
      cases q : F.get? s.heap.objs.size with
      | none => rfl
      | some o' => exact absurd (Heap.lt_size (S.fz _ _ q)) (Nat.lt_irrefl _)
    · obtain ⟨x, o', e, q⟩ := S.ow p hp; exact ⟨x, o', k _ _ e, q⟩
  · obtain ⟨p, hp, e⟩ := List.mem_map.mp hm
    obtain ⟨_, o', e', _⟩ := S.ow p hp
    rw [e] at e'
    exact absurd (Heap.lt_size e') (Nat.lt_irrefl _)
/-- a fresh object, frozen at once -/
theorem St.allocF (S : St B F own s) {o : Obj} (hf : o.isFreed = false) :
    ∃ F', Sub F F' ∧ St B F' own { s with heap := s.heap.push o } ∧ F'.get? s.heap.objs.size = some o := by
  have S1 := S.alloc (P := fun x => x = o) hf rfl
  have hn := (List.nodup_cons.mp S1.nd).1
  obtain ⟨F', hs, S', hF⟩ := S1.pop.rebase
  exact ⟨F', hs, S', hF _ _ (Heap.get?_push_size _ hf) hn⟩
theorem St.freeze (S : St B F ((a, P) :: own) s) : ∃ F', Sub F F' ∧ St B F' own s ∧ ∃ o, F'.get? a = some o ∧ P o := by
  obtain ⟨o, e, hp⟩ := S.head
  obtain ⟨F', hs, S', hF⟩ := S.pop.rebase
  exact ⟨F', hs, S', o, hF _ _ e (List.nodup_cons.mp S.nd).1, hp⟩
theorem St.mem (S : St B F own s) (h : (a, P) ∈ own) : ∃ o, s.heap.get? a = some o ∧ P o := (S.ow _ h).2
/-- the owned object at the head, changed -/
theorem St.upd (S : St B F ((a, P) :: own) s) (hs : Heap.SameBut a s.heap h') {o' : Obj} (ho : h'.get? a = some o') (hP : P' o') (t : Nat) :
    St B F ((a, P') :: own) { s with heap := h', toks := t } := by
  have hn := List.nodup_cons.mp S.nd
  refine ⟨S.gens, S.os, S.dr, fun b o e => ?_, fun p hp => ?_, S.nd⟩
  · have : b ≠ a := by rintro rfl; rw [(S.ow _ (.head _)).1] at e; cases e
    exact (hs.2 b this).trans (S.fz _ _ e)
  · rcases List.mem_cons.mp hp with rfl | hp
    · exact ⟨(S.ow _ (.head _)).1, o', ho, hP⟩
    · obtain ⟨x, o, e, q⟩ := S.ow p (.tail _ hp)
      have : p.1 ≠ a := fun e' => hn.1 (List.mem_map.mpr ⟨p, hp, e'⟩)
      exact ⟨x, o, (hs.2 _ this).trans e, q⟩
/-- the owned object at the head changed in any way, the rest extended -/
theorem St.updExtK (S : St B F ((a, P) :: own) s) (hs : Heap.ExtBut a s.heap h') {o' : Obj} (ho : h'.get? a = some o') (hP : P' o') (t : Nat) : St B F ((a, P') :: own) { s with heap := h', toks := t } := by
  have hn := List.nodup_cons.mp S.nd
  refine ⟨S.gens, S.os, S.dr, fun b o e => ?_, fun p hp => ?_, S.nd⟩
  · have : b ≠ a := by rintro rfl; rw [(S.ow _ (.head _)).1] at e; cases e
    exact hs b o this (S.fz _ _ e)
  · rcases List.mem_cons.mp hp with rfl | hp
    · exact ⟨(S.ow _ (.head _)).1, o', ho, hP⟩
    · obtain ⟨x, o, e, q⟩ := S.ow p (.tail _ hp)
      have : p.1 ≠ a := fun e' => hn.1 (List.mem_map.mpr ⟨p, hp, e'⟩)
      exact ⟨x, o, hs _ _ this e, q⟩
theorem St.updExt (S : St B F ((a, P) :: own) s) (hs : Heap.ExtBut a s.heap h') (t : Nat) : St B F own { s with heap := h', toks := t } := by
  have hn := List.nodup_cons.mp S.nd
  refine ⟨S.gens, S.os, S.dr, fun b o e => ?_, fun p hp => ?_, hn.2⟩
  · have : b ≠ a := by rintro rfl; rw [(S.ow _ (.head _)).1] at e; cases e
    exact hs b o this (S.fz _ _ e)
  · obtain ⟨x, o, e, q⟩ := S.ow p (.tail _ hp)
    have : p.1 ≠ a := fun e' => hn.1 (List.mem_map.mpr ⟨p, hp, e'⟩)
    exact ⟨x, o, hs _ _ this e, q⟩
end

/-! ## membership and change of an owned item -/
inductive Upd : Own → Addr → (Obj → Prop) → (Obj → Prop) → Own → Prop
  | head {a P P' l} : Upd ((a, P) :: l) a P P' ((a, P') :: l)
  | tail {x a P P' l l'} : Upd l a P P' l' → Upd (x :: l) a P P' (x :: l')
theorem Upd.perm {l l' : Own} {a : Addr} {P P' : Obj → Prop} (u : Upd l a P P' l') : ∃ r, l.Perm ((a, P) :: r) ∧ l'.Perm ((a, P') :: r) := by
  induction u with
  | @head a P P' l => exact ⟨l, .refl _, .refl _⟩
  | @tail x a P P' l l' u ih =>
    obtain ⟨r, h1, h2⟩ := ih
    exact ⟨x :: r, (h1.cons x).trans (List.Perm.swap ..), (h2.cons x).trans (List.Perm.swap ..)⟩
theorem upd_keys {l l' : Own} {a : Addr} {P P' : Obj → Prop} (u : Upd l a P P' l') : l'.map (·.1) = l.map (·.1) := by
  induction u with
  | head => rfl
  | tail _ ih => rw [List.map_cons, List.map_cons, ih]
theorem upd_eq {l l' : Own} {a : Addr} {P P' : Obj → Prop} (u : Upd l a P P' l') : P = P' → l' = l := by
  induction u with
  | head => intro e; rw [e]
  | tail _ ih => intro e; rw [ih e]
theorem upd_same {l l' : Own} {a : Addr} {P : Obj → Prop} (u : Upd l a P P l') : l'.Perm l := by rw [upd_eq u rfl]
section
variable {B : Shared} {F F' : Heap} {own own' : Own} {s : Shared} {a b : Addr} {P P' : Obj → Prop} {h' : Heap}
theorem St.at (S : St B F own s) (u : Upd own a P P' own') : ∃ o, s.heap.get? a = some o ∧ P o := by
  obtain ⟨r, h1, _⟩ := u.perm
  exact (S.perm h1.symm).head
theorem St.updAt (S : St B F own s) (u : Upd own a P P' own') (hs : Heap.SameBut a s.heap h') {o' : Obj} (ho : h'.get? a = some o') (hP : P' o') (t : Nat) :
    St B F own' { s with heap := h', toks := t } := by
  obtain ⟨r, h1, h2⟩ := u.perm
  exact ((S.perm h1.symm).upd (P' := P') hs ho hP t).perm h2
end

/-! ## what owned objects are -/
noncomputable def NsO (m : Str → Option Value) (o : Obj) : Prop := ∃ es ep, o.data = .dict es ep ∧ StrKeys es ∧ ∀ name, nsFind es name = m name
noncomputable def ListO (xs : List Value) (o : Obj) : Prop := ∃ n, o = { cls := .type "list", data := .seq xs.toArray n }
theorem ns_of {h : Heap} {L : Addr} {m : Str → Option Value} (x : ∃ o, h.get? L = some o ∧ NsO m o) : h.Ns L m :=
  let ⟨o, e, es, ep, r⟩ := x; ⟨o, es, ep, e, r⟩
theorem of_ns {h : Heap} {L : Addr} {m : Str → Option Value} (x : h.Ns L m) : ∃ o, h.get? L = some o ∧ NsO m o :=
  let ⟨o, es, ep, e, r⟩ := x; ⟨o, e, es, ep, r⟩
theorem list_of {h : Heap} {l : Addr} {xs : List Value} (x : ∃ o, h.get? l = some o ∧ ListO xs o) : h.IsList l xs.toArray := by
  obtain ⟨o, e, n, rfl⟩ := x; exact ⟨_, e, rfl, n, rfl⟩

theorem isL_sub {F F' : Heap} {l : Addr} {xs : Array Value} (x : F.IsList l xs) (k : Sub F F') : F'.IsList l xs := let ⟨o, e, r⟩ := x; ⟨o, k _ _ e, r⟩

/-! ## data in a frozen heap -/
inductive All2 {α β : Type} (R : α → β → Prop) : List α → List β → Prop
  | nil : All2 R [] []
  | cons {a b as bs} : R a b → All2 R as bs → All2 R (a :: as) (b :: bs)
section
variable {α β : Type} {R R' : α → β → Prop}
theorem All2.mono {as : List α} {bs : List β} (h : All2 R as bs) (k : ∀ a b, R a b → R' a b) : All2 R' as bs := by
  induction h with
  | nil => exact .nil
  | cons x _ ih => exact .cons (k _ _ x) ih
theorem All2.length {as : List α} {bs : List β} (h : All2 R as bs) : as.length = bs.length := by
  induction h with
  | nil => rfl
  | cons _ _ ih => simp [ih]
theorem All2.get {as : List α} {bs : List β} (h : All2 R as bs) : ∀ {i : Nat} {b : β}, bs[i]? = some b → ∃ a, as[i]? = some a ∧ R a b := by
  induction h with
  | nil => intro i b e; simp at e
  | cons x _ ih =>
    intro i b e
    cases i with
    | zero => simp at e; subst e; exact ⟨_, rfl, x⟩
    | succ i => simpa using ih (i := i) (by simpa using e)
theorem All2.append {as as' : List α} {bs bs' : List β} (h : All2 R as bs) (h' : All2 R as' bs') : All2 R (as ++ as') (bs ++ bs') := by
  induction h with
  | nil => exact h'
  | cons x _ ih => exact .cons x ih
theorem All2.snoc {as : List α} {bs : List β} (h : All2 R as bs) {a : α} {b : β} (x : R a b) : All2 R (as ++ [a]) (bs ++ [b]) := h.append (.cons x .nil)
end
noncomputable def IntL (F : Heap) (v : Value) (ns : List Int) : Prop := ∃ l vs, v = .ref l ∧ F.IsList l vs.toArray ∧ IntsAre vs ns
theorem IntL.sub {F F' : Heap} {v : Value} {ns : List Int} (x : IntL F v ns) (k : Sub F F') : IntL F' v ns := let ⟨l, vs, e, h, i⟩ := x; ⟨l, vs, e, isL_sub h k, i⟩
noncomputable def LstOf {α : Type} (R : Heap → Value → α → Prop) (F : Heap) (v : Value) (xs : List α) : Prop := ∃ l vs, v = .ref l ∧ F.IsList l vs.toArray ∧ All2 (R F) vs xs

/-! ## the base -/
structure Bs (w : World) (F : Heap) : Prop where
  K : Frag.In (topK w.params) F
  T : ∃ p loose mg mb, TopRead p loose mg mb F
  bm : ∃ ob, F.get? 4 = some ob ∧ ob.cls = .type "module" ∧ ob.dict = some builtinsNs ∧ ob.data = .plain
theorem Bs.sub {w : World} {F F' : Heap} (x : Bs w F) (k : Sub F F') : Bs w F' :=
  ⟨x.K.keeps k, let ⟨p, l, mg, mb, t⟩ := x.T; ⟨p, l, mg, mb, t.keeps k⟩, let ⟨o, e, r⟩ := x.bm; ⟨o, k _ _ e, r⟩⟩

/-! ## room -/
structure Rm (k : Nat) (A : Around) : Prop where
  hd : A.handled = none
  dp : A.depth + k < recursionLimit
  un : A.units + 10 * k < cLine
theorem Rm.le {k k' : Nat} {A : Around} (x : Rm k A) (h : k' ≤ k) : Rm k' A := ⟨x.hd, by have := x.dp; omega, by have := x.un; omega⟩
theorem Rm.deeper {k : Nat} {A : Around} (x : Rm (k + 1) A) (env : Env) : Rm k (A.deeper env) := ⟨x.hd, by have := x.dp; show A.depth + 1 + k < _; omega, by have := x.un; show A.units + 3 + 10 * k < _; omega⟩
theorem Rm.in1 {k : Nat} {A : Around} (x : Rm (k + 1) A) : Rm k A.in1 := ⟨x.hd, by have := x.dp; show A.depth + k < _; omega, by have := x.un; show A.units + 1 + 10 * k < _; omega⟩
theorem Rm.depth {k : Nat} {A : Around} (x : Rm k A) : A.depth < recursionLimit := by have := x.dp; omega

/-! ## names and constants -/
section
variable {B : Shared} {F F' : Heap} {own own' : Own} {s : Shared} {M : Model} {A : Around} {E : Value → Shared → Prop} {env : Env} {m : Str → Option Value}
theorem r_int {i : Int} {k : Nat} {pos : Pos} {Q : Value → Shared → Prop} (S : St B F own s) (h : ∀ t s', St B F own s' → Q (.int i t) s') :
    wpAny M A (eval (.Constant (.int i) k pos) env) Q E s := wpAny_Constant_int (h _ _ (S.tok _))
theorem r_local {x : Str} {pos : Pos} {v : Value} {Q : Value → Shared → Prop} (S : St B F ((env.locals, NsO m) :: own) s) (hv : m x = some v) (h : Q v s)
    (hk : env.scope.kind = .function := by rfl) (hl : env.kindOf x = some .local := by rfl) (hd : (x == ("__debug__" : Str)) = false := by decide) :
    wpAny M A (eval (.Name x pos) env) Q E s := wpAny_Name (wpAny_loadName_local hk hl (ns_of S.head) hv h) hd
theorem r_store {x : Str} {v : Value} {Q : Unit → Shared → Prop} (S : St B F ((env.locals, NsO m) :: own) s)
    (h : ∀ s', St B F ((env.locals, NsO (fun y => if y = x then some v else m y)) :: own) s' → Q () s')
    (hl : env.kindOf x = some .local := by rfl) (hp : (env.scope.kind == .class || (env.scope.kind == .module && env.locals != env.globals)) = false := by rfl) :
    wpAny M A (storeName env x v) Q E s :=
  wpAny_storeName_local hl (ns_of S.head) (fun _ hn hs => let ⟨_, e, q⟩ := of_ns hn; h _ (S.upd hs e q _)) hp
variable {w : World}
theorem r_global {x : Str} {pos : Pos} {v : Value} {Q : Value → Shared → Prop} (S : St B F own s) (hB : Bs w F) (e : nsIn (topK w.params) mainGlobals x = some (some v)) (h : Q v s)
    (hg : env.globals = mainGlobals := by rfl) (hk : env.scope.kind = .function := by rfl) (hx : env.kindOf x = some .globalImplicit := by rfl) (hd : (x == ("__debug__" : Str)) = false := by decide) :
    wpAny M A (eval (.Name x pos) env) Q E s := by
  obtain ⟨_, _, mg, mb, T⟩ := hB.T
  exact Name_function_global hk hx (loadGlobal_global (mg := mg) (hg ▸ T.g.keeps S.fz) (mg_of hB.K T.g e) h) hd
theorem r_builtin {x : Str} {pos : Pos} {v : Value} {Q : Value → Shared → Prop} (S : St B F own s) (hB : Bs w F) (e : nsIn (topK w.params) mainGlobals x = some none)
    (hv : bootBuiltins x = some v) (hn : x ≠ "__name__") (h : Q v s)
    (hg : env.globals = mainGlobals := by rfl) (hb : env.builtins = builtinsNs := by rfl) (hk : env.scope.kind = .function := by rfl) (hx : env.kindOf x = some .globalImplicit := by rfl) (hd : (x == ("__debug__" : Str)) = false := by decide) :
    wpAny M A (eval (.Name x pos) env) Q E s := by
  obtain ⟨_, _, mg, mb, T⟩ := hB.T
  exact Name_function_global hk hx (loadGlobal_builtin (mg := mg) (mb := mb) (hg ▸ T.g.keeps S.fz) (mg_none_of hB.K T.g e) (hb ▸ T.b.keeps S.fz) ((T.builtins x hn).trans hv) h) hd
end
end Mine
end
section
namespace Mine
/-! ## the plain things -/
structure Sp where
  a : Nat
  b : Nat
  lo : Int
  hi : Int
noncomputable abbrev Way := Nat × List (Int × Int)
noncomputable def waysF (st : List Sp) : Nat → Nat → List Way
  | 0, _ => []
  | n + 1, p => (p, []) :: st.flatMap fun x => if x.b = p then (waysF st n x.a).map fun w => (w.1, w.2 ++ [(x.lo, x.hi)]) else []
theorem flatMap_len {α β : Type} (f : α → List β) (k : Nat) : ∀ l : List α, (∀ x ∈ l, (f x).length ≤ k) → (l.flatMap f).length ≤ l.length * k
  | [], _ => by simp
  | x :: l, h => by
    rw [List.flatMap_cons, List.length_append, List.length_cons, Nat.succ_mul]
    have h1 := h x (by simp)
    have h2 := flatMap_len f k l fun y hy => h y (by simp [hy])
    omega
theorem waysF_len (st : List Sp) : ∀ n p, (waysF st n p).length ≤ (st.length + 1) ^ n
  | 0, _ => by simp [waysF]
  | n + 1, p => by
    rw [waysF, List.length_cons, Nat.pow_succ, Nat.mul_add, Nat.mul_one, Nat.mul_comm]
    have h := flatMap_len (fun x : Sp => if x.b = p then (waysF st n x.a).map fun w => (w.1, w.2 ++ [(x.lo, x.hi)]) else []) ((st.length + 1) ^ n) st (fun x _ => by
      split
      · rw [List.length_map]; exact waysF_len st n x.a
      · simp)
    have h1 : 1 ≤ (st.length + 1) ^ n := Nat.one_le_pow _ _ (by omega)
    omega
theorem waysF_gates (st : List Sp) : ∀ n p, ∀ w ∈ waysF st n p, w.2.length < n
  | 0, _, w, h => by simp [waysF] at h
  | n + 1, p, w, h => by
    rw [waysF] at h
    rcases List.mem_cons.mp h with rfl | h
    · simp
    · obtain ⟨x, _, h⟩ := List.mem_flatMap.mp h
      split at h
      · obtain ⟨w', hw, rfl⟩ := List.mem_map.mp h
        have := waysF_gates st n x.a w' hw
        simp only [List.length_append, List.length_cons, List.length_nil]
        omega
      · simp at h
end Mine
namespace Mine
/-! ## marks, as the text reckons them -/
noncomputable def markStep (m : Int) (rs : List Bool) (x : Sp) : List Bool := if x.hi ≥ m ∧ (x.lo ≥ m ∨ rs.getD x.a false = true) then rs.set x.b true else rs
noncomputable def reachF (own : List Int) (st' : List Sp) (m : Int) : List Bool := st'.foldl (markStep m) (own.map fun l => decide (l ≥ m))
noncomputable def topOne (m : Int) (there : Bool) (top : Int) : Int := if there = true ∧ m > top then m else top
noncomputable def topStep (own : List Int) (st' : List Sp) (tops : List Int) (m : Int) : List Int := List.zipWith (topOne m) (reachF own st' m) tops
noncomputable def marksF (own : List Int) (st st' : List Sp) : List Int := (own ++ st.map (·.lo) ++ st.map (·.hi)).foldl (topStep own st') own
theorem markStep_len (m : Int) (rs : List Bool) (x : Sp) : (markStep m rs x).length = rs.length := by unfold markStep; split <;> simp
theorem foldl_mark_len (m : Int) : ∀ (st : List Sp) (rs : List Bool), (st.foldl (markStep m) rs).length = rs.length
  | [], _ => rfl
  | x :: st, rs => by rw [List.foldl_cons, foldl_mark_len m st, markStep_len]
theorem reachF_len (own : List Int) (st' : List Sp) (m : Int) : (reachF own st' m).length = own.length := by unfold reachF; rw [foldl_mark_len, List.length_map]
theorem foldl_top_len (own : List Int) (st' : List Sp) : ∀ (ms : List Int) (tops : List Int), tops.length = own.length → (ms.foldl (topStep own st') tops).length = own.length
  | [], _, h => h
  | m :: ms, tops, h => by
    rw [List.foldl_cons]
    refine foldl_top_len own st' ms _ ?_
    unfold topStep
    rw [List.length_zipWith, reachF_len, h]
    omega
end Mine
end
section
open PySem PySem.W PyProof.Rows PySem.Calls
set_option Elab.async false
set_option maxRecDepth 100000
namespace Mine
noncomputable section
noncomputable def P0 : Params := { strHash := fun _ => 0, shareClass := fun _ => 0, mergeTok := id, idOf := fun _ => 0, idOfShared := fun _ _ => 0, followText := fun _ => false, idOfImm := fun _ => 0 }
noncomputable def fdAt (P : Params) (a : Addr) : FuncData := match (topK P).lookup a with | some ⟨_, _, .func fd, _⟩ => fd | _ => default
noncomputable abbrev fenv (fd : FuncData) (L a : Addr) : Env :=
  { scope := fd.scope, locals := L, globals := fd.globals, cells := fd.closure, qual := fd.qualname ++ ".<locals>.", func := some a, code := fd.code, frame := some L, builtins := fd.builtins }
noncomputable abbrev fnObj (fd : FuncData) : Obj := ⟨.type "function", none, .func fd, #[]⟩

section
variable {B : Shared} {F F' : Heap} {own own' : Own} {s : Shared} {w : World} {A : Around} {E : Value → Shared → Prop} {env : Env} {m : Str → Option Value}

/-- a call of a built-in by its name -/
theorem r_CallB {x : Str} {id : String} {p pos : Pos} {e : Expr} {rest : List Expr} {Q : Value → Shared → Prop} (S : St B F own s) (hB : Bs w F)
    (en : nsIn (topK w.params) mainGlobals x = some none) (hv : bootBuiltins x = some (.builtin id)) (hn : x ≠ "__name__")
    (h : wpAny (model pg w) A (spliced (backTo pos (starEach (e :: rest) env))) (fun vs s₁ => wpAny (model pg w) A (call (.builtin id) vs) Q E s₁) E s)
    (hg : env.globals = mainGlobals := by rfl) (hb : env.builtins = builtinsNs := by rfl) (hk : env.scope.kind = .function := by rfl) (hx : env.kindOf x = some .globalImplicit := by rfl) (hdb : (x == ("__debug__" : Str)) = false := by decide)
    (he : starEach (e :: rest) env = (false, eval e env) :: starEach rest env := by rfl) (hplain : (backTo pos (starEach rest env)).any (·.1) = false := by rfl) :
    wpAny (model pg w) A (eval (.Call (.Name x p) (e :: rest) [] pos) env) Q E s := by
  refine Call_ (r_builtin S hB en hv hn ?_ hg hb hk hx hdb)
  rw [he] at h ⊢
  refine callWith_builtin (by show (false || (backTo pos (starEach rest env)).any (·.1)) = false; rw [hplain]; rfl) (evalArgs_plain ?_)
  exact h
/-- a call of a def of the text by its name -/
theorem r_CallF {x : Str} {a : Addr} {fd : FuncData} {p pos : Pos} {e : Expr} {rest : List Expr} {Q : Value → Shared → Prop} (S : St B F own s) (hB : Bs w F)
    (en : nsIn (topK w.params) mainGlobals x = some (some (.ref a))) (ho : (topK w.params).lookup a = some (fnObj fd))
    (h : wpAny (model pg w) A (spliced (backTo pos (starEach (e :: rest) env))) (fun vs s₁ => Bs w s₁.heap ∧ wpAny (model pg w) A (call (.ref a) vs) Q E s₁) E s)
    (hg : env.globals = mainGlobals := by rfl) (hk : env.scope.kind = .function := by rfl) (hx : env.kindOf x = some .globalImplicit := by rfl) (hdb : (x == ("__debug__" : Str)) = false := by decide)
    (he : starEach (e :: rest) env = (false, eval e env) :: starEach rest env := by rfl) :
    wpAny (model pg w) A (eval (.Call (.Name x p) (e :: rest) [] pos) env) Q E s := by
  refine Call_ (r_global S hB en ?_ hg hk hx hdb)
  rw [he] at h ⊢
  refine callWith_function (o := fnObj fd) (fd := fd) (evalArgs_plain (wpAny_mono h (fun vs s₁ h₁ => ⟨⟨h₁.1.K _ _ ho, rfl⟩, h₁.2⟩) fun _ _ x => x))

/-- a call of what an expression gives, a def -/
theorem r_CallV {func : Expr} {fa : Addr} {fo : Obj} {ff : FuncData} {pos : Pos} {e : Expr} {rest : List Expr} {Q : Value → Shared → Prop}
    (h : wpAny (model pg w) A (eval func env) (fun f s₁ => f = .ref fa ∧ wpAny (model pg w) A (spliced (backTo pos (starEach (e :: rest) env))) (fun vs s₂ => s₂.heap.get? fa = some fo ∧ fo.data = .func ff ∧ wpAny (model pg w) A (call (.ref fa) vs) Q E s₂) E s₁) E s)
    (hc : eval (.Call func (e :: rest) [] pos) env = (do callWith pos (← eval func env) [] (backTo pos (starEach (e :: rest) env)) (backToKw pos (keywordEach [] env))) := by rfl)
    (he : starEach (e :: rest) env = (false, eval e env) :: starEach rest env := by rfl) :
    wpAny (model pg w) A (eval (.Call func (e :: rest) [] pos) env) Q E s := by
  refine Call_ (wpAny_mono h (fun f s₁ h₁ => ?_) fun _ _ x => x) hc
  obtain ⟨rfl, h₁⟩ := h₁
  rw [he] at h₁ ⊢
  exact callWith_function (o := fo) (fd := ff) (evalArgs_plain (wpAny_mono h₁ (fun vs s₁ h₂ => ⟨⟨h₂.1, h₂.2.1⟩, h₂.2.2⟩) fun _ _ x => x))

theorem bs_nolimit {h : Heap} (x : Bs w h) : h.NoLimit := let ⟨_, _, _, _, T⟩ := x.T; T.nolimit

/-- a def is entered -/
theorem r_enter {k : Nat} {a : Addr} {fd : FuncData} {body : List Stmt} {args : List Value} {binds : List (Str × Value)} {Q : Value → Shared → Prop}
    (S : St B F own s) (hB : Bs w F) (hA : Rm (k + 1) A) (ho : (topK w.params).lookup a = some (fnObj fd)) (hcd : codeIn (topK w.params) fd.code fd.qualname = true) (hbody : fd.body = .stmts body)
    (hbind : ∀ Q' : List (Str × Value) → Shared → Prop, (∀ s', St B F own' s' → Q' binds s') → wpAny (model pg w) A.in1 (bindArgs fd ⟨args, []⟩) Q' (fun _ _ => False) s)
    (hcell : ∀ x ∈ fd.scope.names, x.2 ≠ .cell) (hloc : ∀ x ∈ binds, fd.scope.names.lookup x.1 = some .local)
    (h : ∀ L s', St B F ((L, NsO (fun x => binds.reverse.lookup x)) :: own') s' → Rm k (A.deeper (fenv fd L a)) →
      wpAny (model pg w) (A.deeper (fenv fd L a)) (execs body (fenv fd L a)) (fun f s'' => Q (match f with | .ret v => v | _ => .none) s'') (fun _ _ => False) s')
    (hco : fd.scope.isCoroutine = false := by rfl) (hgen : fd.scope.isGenerator = false := by rfl) (hk : fd.scope.kind = .function := by rfl) :
    wpAny (model pg w) A (call (.ref a) args) Q E s := by
  refine wpAny_call ?_
  refine codeAny_call_function (fd := fd) hA.depth (S.fz _ _ (hB.K _ _ ho)) rfl hco hgen hbody ((codeRec_of hB.K hcd).keeps S.fz) ?_
  refine wpAny_mono (hbind _ fun s₁ S₁ => ?_) (fun _ _ x => x) (fun _ _ x => x.elim)
  refine wpAny_newFunctionEnv hcell hloc (fun h₁ hns hsb => ⟨(bs_nolimit (hB.sub S₁.fz)).fresh _ hsb, ?_⟩) hk
  refine codeAny_func ?_
  have S₂ : St B F ((s₁.heap.objs.size, NsO (fun x => binds.reverse.lookup x)) :: own') { s₁ with heap := h₁, toks := s₁.toks + binds.length } := by
    obtain ⟨o, e, q⟩ := of_ns hns
    exact (S₁.alloc (P := fun _ => True) (o := { cls := .type "frame", data := .dict #[] }) rfl trivial).upd (h' := h₁) hsb e q _
  exact wpAny_mono (h _ _ S₂ (hA.deeper _)) (fun _ _ x => x) (fun _ _ x => x.elim)

theorem r_enterP {k : Nat} {a : Addr} {fd : FuncData} {body : List Stmt} {args : List Value} {binds : List (Str × Value)} {Q : Value → Shared → Prop}
    (S : St B F own s) (hB : Bs w F) (hA : Rm (k + 1) A) (ho : (topK w.params).lookup a = some (fnObj fd)) (hcd : codeIn (topK w.params) fd.code fd.qualname = true) (hbody : fd.body = .stmts body)
    (hbind : bindArgs fd ⟨args, []⟩ = pure binds)
    (hcell : ∀ x ∈ fd.scope.names, x.2 ≠ .cell) (hloc : ∀ x ∈ binds, fd.scope.names.lookup x.1 = some .local)
    (h : ∀ L s', St B F ((L, NsO (fun x => binds.reverse.lookup x)) :: own) s' → Rm k (A.deeper (fenv fd L a)) →
      wpAny (model pg w) (A.deeper (fenv fd L a)) (execs body (fenv fd L a)) (fun f s'' => Q (match f with | .ret v => v | _ => .none) s'') (fun _ _ => False) s')
    (hco : fd.scope.isCoroutine = false := by rfl) (hgen : fd.scope.isGenerator = false := by rfl) (hk : fd.scope.kind = .function := by rfl) :
    wpAny (model pg w) A (call (.ref a) args) Q E s :=
  r_enter S hB hA ho hcd hbody (fun Q' hQ => by rw [hbind]; exact wpAny_pure (hQ _ S)) hcell hloc h hco hgen hk
end

/-! ## median_low -/
noncomputable def fdMedS : {x : FuncData // fdAt P0 41 = x} := by
  refine' ⟨_, _⟩
  rotate_left
  conv => lhs; whnf
noncomputable def fdMed : FuncData := fdMedS.1
noncomputable def med (a b c : Int) : Int := max (min a b) (min (max a b) c)

theorem le_ext {a b : Int} (h : ∀ m, m ≤ a ↔ m ≤ b) : a = b := Int.le_antisymm ((h a).mp (Int.le_refl a)) ((h b).mpr (Int.le_refl b))
theorem le_mx {m a b : Int} : m ≤ max a b ↔ m ≤ a ∨ m ≤ b := by
  rw [Int.max_def]
  split
  · exact ⟨.inr, fun h => h.elim (fun h => Int.le_trans h (by assumption)) id⟩
  · exact ⟨.inl, fun h => h.elim id fun h => Int.le_trans h (Int.le_of_lt (Int.not_le.mp (by assumption)))⟩
theorem le_med {m a b c : Int} : m ≤ med a b c ↔ (m ≤ a ∧ m ≤ b) ∨ ((m ≤ a ∨ m ≤ b) ∧ m ≤ c) := by
  unfold med
  rw [le_mx, Int.le_min, Int.le_min, le_mx]
theorem cnt3 (m a b c : Int) : [a, b, c].countP (fun x => decide (m ≤ x)) = (if m ≤ a then 1 else 0) + (if m ≤ b then 1 else 0) + (if m ≤ c then 1 else 0) := by
  simp only [List.countP_cons, List.countP_nil, decide_eq_true_eq]
  rw [Nat.zero_add, Nat.add_comm (if m ≤ c then 1 else 0), Nat.add_comm, ← Nat.add_assoc]
theorem two_cnt (m a b c : Int) : m ≤ med a b c ↔ 2 ≤ [a, b, c].countP (fun x => decide (m ≤ x)) := by
  rw [cnt3, le_med]
  by_cases ha : m ≤ a <;> by_cases hb : m ≤ b <;> by_cases hc : m ≤ c <;> simp [ha, hb, hc]
theorem med_sorted {a b c x y z : Int} (hp : [x, y, z].Perm [a, b, c]) (hs : [x, y, z].Pairwise (· ≤ ·)) : y = med a b c := by
  have h1 : x ≤ y := (List.pairwise_cons.mp hs).1 y (.head _)
  have h2 : y ≤ z := (List.pairwise_cons.mp (List.pairwise_cons.mp hs).2).1 z (.head _)
  refine le_ext fun m => ?_
  rw [two_cnt, ← hp.countP_eq, ← two_cnt, le_med]
  exact ⟨fun h => .inr ⟨.inr h, Int.le_trans h h2⟩, fun h => h.elim (fun q => q.2) fun q => q.1.elim (fun q => Int.le_trans q h1) id⟩

section
variable {B : Shared} {F F' : Heap} {own own' : Own} {s : Shared} {w : World} {A : Around} {E : Value → Shared → Prop} {env : Env} {m : Str → Option Value}
theorem r_sorted {l : Addr} {vs : List Value} {ns : List Int} {Q : Value → Shared → Prop} (S : St B F own s) (hl : s.heap.IsList l vs.toArray) (hI : IntsAre vs ns) (h64 : vs.length < 64)
    (h : ∀ F' a vs' ns' s', Sub F F' → St B F' own s' → F'.IsList a vs'.toArray → IntsAre vs' ns' → ns'.Perm ns → ns'.Pairwise (· ≤ ·) → Q (.ref a) s') :
    wpAny (model pg w) A (call (.builtin "sorted") [.ref l]) Q E s := by
  refine sorted_ints hl hI h64 fun out ns' a1 a2 a3 => ?_
  obtain ⟨e, he⟩ := sortedAll_at s.heap vs out
  have S1 := S.keeps (h' := sortedAll s.heap vs out) (fun b o hb => sortedAll_old hb) s.toks
  obtain ⟨F', hs, S', hF⟩ := S1.rebase
  exact h F' _ out.toList ns' _ hs S' ⟨_, hF _ _ he (S.notin (Nat.le_succ _)), rfl, e, rfl⟩ a1 a2 a3

theorem median_low_spec {v : Value} {a b c : Int} {Q : Value → Shared → Prop} (S : St B F own s) (hB : Bs w F) (hA : Rm 2 A)
    (hv : IntL F v [a, b, c]) (h : ∀ F' t s', Sub F F' → St B F' own s' → Q (.int (med a b c) t) s') :
    wpAny (model pg w) A (call (.ref 41) [v]) Q E s := by
  obtain ⟨l, vs, rfl, hl, hI⟩ := hv
  refine r_enterP (fd := fdMed) S hB hA rfl rfl rfl rfl (by decide) (locs rfl) fun L s₁ S₁ hA₁ => ?_
  refine wpAny_execs_cons (wpAny_Assign_Name ?_)
  refine r_CallB S₁ hB rfl (by boot_fast) (by decide) (args_cons (r_local S₁ rfl (args_nil ?_)))
  refine r_sorted S₁ (isL_sub hl S₁.fz) hI (by rw [hI.length]; show 3 < 64; decide) fun F₂ d vs' ns' s₂ hs₂ S₂ hd hI' hp hso => ?_
  refine r_store S₂ fun s₃ S₃ => ?_
  refine wpAny_execs_cons (wpAny_Assign_Name ?_)
  refine r_CallB S₃ (hB.sub hs₂) rfl (by boot_fast) (by decide) (args_cons (r_local S₃ rfl (args_nil ?_)))
  obtain ⟨x, y, z, rfl⟩ : ∃ x y z, ns' = [x, y, z] := by
    have := hp.length_eq
    match ns', this with
    | [x, y, z], _ => exact ⟨x, y, z, rfl⟩
  have hlen : vs'.toArray.size = 3 := by rw [List.size_toArray, hI'.length]; rfl
  refine call_len_list (isL_sub hd S₃.fz) (by rw [hlen]; decide) ?_
  rw [hlen]
  refine r_store (S₃.tok _) fun s₄ S₄ => ?_
  refine wpAny_execs_cons (wpAny_If (wpAny_isTrue_Compare1 ?_))
  refine r_local S₄ rfl (r_int S₄ fun t₅ s₅ S₅ => eq_int (wpAny_truthy_bool ?_))
  refine wpAny_execs_nil ?_
  refine wpAny_execs_cons (wpAny_If (wpAny_isTrue_Compare1 ?_))
  refine wpAny_BinOp (r_local S₅ rfl (r_int S₅ fun t₆ s₆ S₆ => mod_int' (by decide) (r_int (S₆.tok _) fun t₇ s₇ S₇ => eq_int (wpAny_truthy_bool ?_))))
  refine wpAny_execs_cons (wpAny_Return_some (Subscript_ ?_))
  refine r_local S₇ rfl (wpAny_BinOp (r_local S₇ rfl (r_int S₇ fun t₈ s₈ S₈ => floordiv_int (by decide) ?_)))
  obtain ⟨t, ht⟩ := hI'.get 1 y rfl
  refine tail_any (isL_sub hd S₈.fz).typeIs slot_list_getitem.lookup (wpAny_getItem_list (isL_sub hd S₈.fz) (by decide) (by decide) (x := .int y t) (by simpa using ht) ?_) (by rfl)
  have e : y = med a b c := med_sorted hp hso
  subst e
  exact h _ _ _ hs₂ (S₈.tok _).pop
end
end
end Mine
end
section
namespace Mine
theorem perm_lift {α β : Type} (f : α → β) {l₁ l₂ : List β} (h : l₁.Perm l₂) : ∀ zs : List α, l₂ = zs.map f → ∃ zs' : List α, zs'.Perm zs ∧ l₁ = zs'.map f := by
  induction h with
  | nil => intro zs e; exact ⟨zs, .refl _, e⟩
  | cons x _ ih =>
    intro zs e
    cases zs with
    | nil => cases e
    | cons z zs =>
      rw [List.map_cons] at e
      injection e with e1 e2
      obtain ⟨zs', p, q⟩ := ih zs e2
      exact ⟨z :: zs', p.cons z, by rw [List.map_cons, e1, q]⟩
  | swap x y l =>
    intro zs e
    match zs, e with
    | z1 :: z2 :: zs, e =>
      simp only [List.map_cons] at e
      injection e with e1 e2
      injection e2 with e2 e3
      exact ⟨z2 :: z1 :: zs, List.Perm.swap .., by simp only [List.map_cons]; rw [e1, e2, e3]⟩
  | trans _ _ ih1 ih2 =>
    intro zs e
    obtain ⟨z2, p2, e2⟩ := ih2 zs e
    obtain ⟨z1, p1, e1⟩ := ih1 z2 e2
    exact ⟨z1, p1.trans p2, e1⟩
theorem all2_zip {α β : Type} {R : α → β → Prop} {as : List α} {bs : List β} (h : All2 R as bs) : (∀ p ∈ as.zip bs, R p.1 p.2) ∧ (as.zip bs).map (·.1) = as ∧ (as.zip bs).map (·.2) = bs := by
  induction h with
  | nil => simp
  | cons x _ ih =>
    obtain ⟨i1, i2, i3⟩ := ih
    refine ⟨?_, by rw [List.zip_cons_cons, List.map_cons, i2], by rw [List.zip_cons_cons, List.map_cons, i3]⟩
    intro p hp
    rw [List.zip_cons_cons] at hp
    rcases List.mem_cons.mp hp with rfl | hp
    · exact x
    · exact i1 p hp
theorem all2_of_zip {α β : Type} {R : α → β → Prop} : ∀ {zs : List (α × β)}, (∀ p ∈ zs, R p.1 p.2) → All2 R (zs.map (·.1)) (zs.map (·.2))
  | [], _ => .nil
  | z :: zs, h => .cons (h z (by simp)) (all2_of_zip fun p hp => h p (by simp [hp]))
theorem sort_all2 {α β : Type} {R : α → β → Prop} {key : β → Int} {as : List α} {bs : List β} (h : All2 R as bs) {ps : List (Int × α)} (hp : ps.Perm ((bs.map key).zip as)) :
    ∃ bs' : List β, bs'.Perm bs ∧ All2 R (ps.map (·.2)) bs' ∧ bs'.map key = ps.map (·.1) := by
  obtain ⟨i1, i2, i3⟩ := all2_zip h
  have e : (bs.map key).zip as = (as.zip bs).map fun p => (key p.2, p.1) := by
    clear hp i1 i2 i3
    induction h with
    | nil => rfl
    | cons _ _ ih => simp only [List.map_cons, List.zip_cons_cons, ih]
  obtain ⟨zs, pz, ez⟩ := perm_lift (fun p : α × β => (key p.2, p.1)) hp _ e
  refine ⟨zs.map (·.2), i3 ▸ pz.map _, ?_, ?_⟩
  · rw [ez, List.map_map]
    exact all2_of_zip fun p hp => i1 p (pz.mem_iff.mp hp)
  · rw [ez, List.map_map, List.map_map]
    rfl
end Mine
end
section
namespace Mine
/-! ## the plain law: clamps and levels -/
theorem med_ge {lo hi y m : Int} (h : lo ≤ hi) : m ≤ med lo y hi ↔ hi ≥ m ∧ (lo ≥ m ∨ y ≥ m) := by
  rw [le_med]
  exact ⟨fun q => q.elim (fun q => ⟨Int.le_trans q.1 h, .inl q.1⟩) fun q => ⟨q.2, q.1⟩, fun q => .inr ⟨q.2, q.1⟩⟩
theorem med_ge2 {lo hi y m : Int} (h : lo ≤ hi) : med lo y hi ≥ m ↔ hi ≥ m ∧ (lo ≥ m ∨ y ≥ m) := med_ge h
theorem med_mono {lo hi x y : Int} (h : lo ≤ hi) (k : x ≤ y) : med lo x hi ≤ med lo y hi := by
  have q := (med_ge h).mp (Int.le_refl (med lo x hi))
  exact (med_ge h).mpr ⟨q.1, q.2.imp id fun q => Int.le_trans q k⟩
theorem med_in {lo hi x : Int} (h1 : lo ≤ x) (h2 : x ≤ hi) : med lo x hi = x := le_ext fun m => by
  rw [med_ge (Int.le_trans h1 h2)]
  exact ⟨fun q => q.2.elim (fun q => Int.le_trans q h1) id, fun q => ⟨Int.le_trans q h2, .inr q⟩⟩
theorem med_med {lo hi L H x : Int} (h : lo ≤ hi) (k : L ≤ H) : med lo (med L x H) hi = med (med lo L hi) x (med lo H hi) := le_ext fun m => by
  rw [med_ge h, med_ge (med_mono h k), med_ge2 k, med_ge2 h, med_ge2 h]
  constructor
  · rintro ⟨a, b | ⟨c, d⟩⟩
    · exact ⟨⟨a, .inl b⟩, .inl ⟨a, .inl b⟩⟩
    · exact ⟨⟨a, .inr c⟩, d.imp (fun q => ⟨a, .inr q⟩) id⟩
  · rintro ⟨⟨a, b⟩, c⟩
    refine ⟨a, ?_⟩
    rcases b with b | b
    · exact .inl b
    · rcases c with ⟨_, c | c⟩ | c
      · exact .inl c
      · exact .inr ⟨b, .inl c⟩
      · exact .inr ⟨b, .inr c⟩
/-- the bounds that gates make, one after another -/
noncomputable def boundsF (below above : Int) (gs : List (Int × Int)) : Int × Int := gs.foldl (fun b g => (med g.1 b.1 g.2, med g.1 b.2 g.2)) (below, above)
noncomputable def passF (gs : List (Int × Int)) (x : Int) : Int := gs.foldl (fun y g => med g.1 y g.2) x
theorem bounds_le {gs : List (Int × Int)} (hg : ∀ g ∈ gs, g.1 ≤ g.2) : ∀ {L H : Int}, L ≤ H → (boundsF L H gs).1 ≤ (boundsF L H gs).2 := by
  induction gs with
  | nil => intro L H h; exact h
  | cons g gs ih => intro L H h; exact ih (fun a ha => hg a (.tail _ ha)) (med_mono (hg g (.head _)) h)
theorem pass_bounds {gs : List (Int × Int)} (hg : ∀ g ∈ gs, g.1 ≤ g.2) : ∀ {L H x : Int}, L ≤ H → passF gs (med L x H) = med (boundsF L H gs).1 x (boundsF L H gs).2 := by
  induction gs with
  | nil => intro L H x h; rfl
  | cons g gs ih =>
    intro L H x h
    show passF gs (med g.1 (med L x H) g.2) = _
    rw [med_med (hg g (.head _)) h]
    exact ih (fun a ha => hg a (.tail _ ha)) (med_mono (hg g (.head _)) h)
/-- what a way tells -/
theorem told_pass {gs : List (Int × Int)} (hg : ∀ g ∈ gs, g.1 ≤ g.2) {below above x : Int} (h1 : below ≤ x) (h2 : x ≤ above) : med (boundsF below above gs).1 x (boundsF below above gs).2 = passF gs x := by
  rw [← pass_bounds hg (Int.le_trans h1 h2), med_in h1 h2]
theorem pass_mono {gs : List (Int × Int)} (hg : ∀ g ∈ gs, g.1 ≤ g.2) : ∀ {x y : Int}, x ≤ y → passF gs x ≤ passF gs y := by
  induction gs with
  | nil => intro x y h; exact h
  | cons g gs ih => intro x y h; exact ih (fun a ha => hg a (.tail _ ha)) (med_mono (hg g (.head _)) h)
/-- the level of a place, by recursion (fuel n) -/
noncomputable def lvF (own : List Int) (st : List Sp) : Nat → Nat → Int
  | 0, _ => 0
  | n + 1, p => (st.filter fun x => decide (x.b = p)).foldl (fun h x => max h (med x.lo (lvF own st n x.a) x.hi)) (own.getD p 0)
theorem lv_fuel {own : List Int} {st : List Sp} (hu : ∀ x ∈ st, x.a < x.b) : ∀ n m p, p < n → p < m → lvF own st n p = lvF own st m p
  | 0, _, _, h, _ => by omega
  | _ + 1, 0, _, _, h => by omega
  | n + 1, m + 1, p, h1, h2 => by
    unfold lvF
    have key : ∀ (l : List Sp), (∀ x ∈ l, x ∈ st ∧ x.b = p) → ∀ z, l.foldl (fun h x => max h (med x.lo (lvF own st n x.a) x.hi)) z = l.foldl (fun h x => max h (med x.lo (lvF own st m x.a) x.hi)) z := by
      intro l
      induction l with
      | nil => intro _ _; rfl
      | cons x l ih =>
        intro hl z
        obtain ⟨hx, hb⟩ := hl x (.head _)
        have := hu x hx
        rw [List.foldl_cons, List.foldl_cons, lv_fuel hu n m x.a (by omega) (by omega)]
        exact ih (fun y hy => hl y (.tail _ hy)) _
    exact key _ (fun x hx => by obtain ⟨a, b⟩ := List.mem_filter.mp hx; exact ⟨a, by simpa using b⟩) _
/-! ### the greatest -/
noncomputable def Mx (v : Int) (l : List Int) : Prop := v ∈ l ∧ ∀ y ∈ l, y ≤ v
theorem Mx.uniq {v w : Int} {l : List Int} (a : Mx v l) (b : Mx w l) : v = w := Int.le_antisymm (b.2 v a.1) (a.2 w b.1)
theorem Mx.map {v : Int} {l : List Int} {f : Int → Int} (hf : ∀ x y, x ≤ y → f x ≤ f y) (h : Mx v l) : Mx (f v) (l.map f) :=
  ⟨List.mem_map_of_mem h.1, fun y hy => by obtain ⟨x, hx, rfl⟩ := List.mem_map.mp hy; exact hf _ _ (h.2 x hx)⟩
theorem mx_foldl {α : Type} (f : α → Int) : ∀ (l : List α) (z : Int), Mx (l.foldl (fun h x => max h (f x)) z) (z :: l.map f)
  | [], z => ⟨.head _, fun y hy => by simp at hy; rw [hy]; exact Int.le_refl _⟩
  | x :: l, z => by
    obtain ⟨h1, h2⟩ := mx_foldl f l (max z (f x))
    rw [List.foldl_cons]
    have hz := h2 _ (.head _)
    refine ⟨?_, fun y hy => ?_⟩
    · rcases List.mem_cons.mp h1 with e | e
      · rw [e]
        rcases Int.le_total z (f x) with q | q
        · rw [Int.max_eq_right q]; simp
        · rw [Int.max_eq_left q]; simp
      · exact .tail _ (.tail _ e)
    · rcases List.mem_cons.mp hy with rfl | hy
      · omega
      · rw [List.map_cons] at hy
        rcases List.mem_cons.mp hy with rfl | hy
        · omega
        · exact h2 y (.tail _ hy)
noncomputable def toldW (own : List Int) (w : Way) : Int := passF w.2 (own.getD w.1 0)
theorem tolds_succ (own : List Int) (st : List Sp) (n p : Nat) : (waysF st (n + 1) p).map (toldW own) = own.getD p 0 :: st.flatMap fun x => if x.b = p then ((waysF st n x.a).map (toldW own)).map fun y => med x.lo y x.hi else [] := by
  rw [waysF, List.map_cons, List.map_flatMap]
  congr 1
  congr 1
  funext x
  split
  · rw [List.map_map, List.map_map]
    congr 1
    funext w
    show passF (w.2 ++ [(x.lo, x.hi)]) (own.getD w.1 0) = med x.lo (passF w.2 (own.getD w.1 0)) x.hi
    unfold passF
    rw [List.foldl_append]; rfl
  · rfl
theorem ways_level {own : List Int} {st : List Sp} (hu : ∀ x ∈ st, x.a < x.b) (hg : ∀ x ∈ st, x.lo ≤ x.hi) : ∀ n p, p < n → Mx (lvF own st n p) ((waysF st n p).map (toldW own))
  | 0, _, h => by omega
  | n + 1, p, h => by
    rw [tolds_succ]
    unfold lvF
    obtain ⟨h1, h2⟩ := mx_foldl (fun x : Sp => med x.lo (lvF own st n x.a) x.hi) (st.filter fun x => decide (x.b = p)) (own.getD p 0)
    refine ⟨?_, fun y hy => ?_⟩
    · rcases List.mem_cons.mp h1 with e | e
      · rw [e]; exact .head _
      · obtain ⟨x, hx, e⟩ := List.mem_map.mp e
        obtain ⟨hx1, hx2⟩ := List.mem_filter.mp hx
        have hb : x.b = p := by simpa using hx2
        have := hu x hx1
        refine .tail _ (List.mem_flatMap.mpr ⟨x, hx1, ?_⟩)
        rw [if_pos hb, ← e]
        exact ((ways_level hu hg n x.a (by omega)).map (f := fun y => med x.lo y x.hi) fun _ _ k => med_mono (hg x hx1) k).1
    · rcases List.mem_cons.mp hy with rfl | hy
      · exact h2 _ (.head _)
      · obtain ⟨x, hx1, hy⟩ := List.mem_flatMap.mp hy
        split at hy
        · rename_i hb
          have := hu x hx1
          have h3 := ((ways_level (own := own) hu hg n x.a (by omega)).map (f := fun y => med x.lo y x.hi) fun _ _ k => med_mono (hg x hx1) k).2 y hy
          have h4 := h2 _ (.tail _ (List.mem_map_of_mem (f := fun x : Sp => med x.lo (lvF own st n x.a) x.hi) (List.mem_filter.mpr ⟨hx1, by simpa using hb⟩)))
          exact Int.le_trans h3 h4
        · cases hy
end Mine
end
section
namespace Mine
/-! ## marks = levels -/
theorem mark_get (m : Int) (rs : List Bool) (x : Sp) (p : Nat) (hb : x.b < rs.length) :
    (markStep m rs x).getD p false = true ↔ rs.getD p false = true ∨ (p = x.b ∧ x.hi ≥ m ∧ (x.lo ≥ m ∨ rs.getD x.a false = true)) := by
  unfold markStep
  split
  · rename_i hc
    by_cases e : p = x.b
    · subst e
      simp only [List.getD_eq_getElem?_getD, List.getElem?_set_self hb, Option.getD_some, true_iff]
      exact .inr ⟨trivial, by simpa only [List.getD_eq_getElem?_getD] using hc⟩
    · simp only [List.getD_eq_getElem?_getD, List.getElem?_set_ne (fun z => e z.symm)]
      constructor
      · exact .inl
      · rintro (h | ⟨h, _⟩)
        · exact h
        · exact absurd h e
  · rename_i hc
    constructor
    · exact .inl
    · rintro (h | ⟨_, h⟩)
      · exact h
      · exact absurd h hc
theorem marks_below (m : Int) : ∀ (l : List Sp) (rs : List Bool) (p : Nat), (∀ x ∈ l, x.b < rs.length) → (∀ x ∈ l, p < x.b) → (l.foldl (markStep m) rs).getD p false = rs.getD p false
  | [], _, _, _, _ => rfl
  | x :: l, rs, p, h1, h2 => by
    rw [List.foldl_cons, marks_below m l _ p (fun y hy => by rw [markStep_len]; exact h1 y (.tail _ hy)) (fun y hy => h2 y (.tail _ hy))]
    have := mark_get m rs x p (h1 x (.head _))
    have hp := h2 x (.head _)
    rw [Bool.eq_iff_iff, this]
    constructor
    · rintro (h | ⟨h, _⟩)
      · exact h
      · omega
    · exact .inl
theorem marks_final (m : Int) : ∀ (l : List Sp) (rs : List Bool), (∀ x ∈ l, x.a < x.b ∧ x.b < rs.length) → l.Pairwise (fun x y => x.b ≤ y.b) → ∀ p,
    (l.foldl (markStep m) rs).getD p false = true ↔ rs.getD p false = true ∨ ∃ x ∈ l, x.b = p ∧ x.hi ≥ m ∧ (x.lo ≥ m ∨ (l.foldl (markStep m) rs).getD x.a false = true)
  | [], rs, _, _, p => by simp
  | x :: l, rs, h1, h2, p => by
    have hx := h1 x (.head _)
    have hp := List.pairwise_cons.mp h2
    rw [List.foldl_cons]
    have ih := marks_final m l (markStep m rs x) (fun y hy => by rw [markStep_len]; exact h1 y (.tail _ hy)) hp.2 p
    have hxa : (l.foldl (markStep m) (markStep m rs x)).getD x.a false = rs.getD x.a false := by
      have := marks_below m (x :: l) rs x.a (fun y hy => (h1 y hy).2) (fun y hy => by
        rcases List.mem_cons.mp hy with rfl | hy
        · exact hx.1
        · have := hp.1 y hy; omega)
      rwa [List.foldl_cons] at this
    rw [ih, mark_get m rs x p hx.2]
    constructor
    · rintro ((h | ⟨h, h3, h4⟩) | ⟨y, hy, h⟩)
      · exact .inl h
      · exact .inr ⟨x, .head _, h.symm, h3, by rw [hxa]; exact h4⟩
      · exact .inr ⟨y, .tail _ hy, h⟩
    · rintro (h | ⟨y, hy, h3, h4, h5⟩)
      · exact .inl (.inl h)
      · rcases List.mem_cons.mp hy with rfl | hy
        · exact .inl (.inr ⟨h3.symm, h4, by rw [hxa] at h5; exact h5⟩)
        · exact .inr ⟨y, hy, h3, h4, h5⟩
noncomputable def lev (own : List Int) (st : List Sp) (p : Nat) : Int := lvF own st (p + 1) p
theorem foldl_cong {α β : Type} {f g : β → α → β} : ∀ (l : List α) (z : β), (∀ x ∈ l, ∀ h, f h x = g h x) → l.foldl f z = l.foldl g z
  | [], _, _ => rfl
  | x :: l, z, h => by rw [List.foldl_cons, List.foldl_cons, h x (.head _)]; exact foldl_cong l _ fun y hy => h y (.tail _ hy)
theorem lev_eq {own : List Int} {st : List Sp} (hu : ∀ x ∈ st, x.a < x.b) (p : Nat) : lev own st p = (st.filter fun x => decide (x.b = p)).foldl (fun h x => max h (med x.lo (lev own st x.a) x.hi)) (own.getD p 0) := by
  have e : lev own st p = (st.filter fun x => decide (x.b = p)).foldl (fun h x => max h (med x.lo (lvF own st p x.a) x.hi)) (own.getD p 0) := rfl
  rw [e]
  refine foldl_cong _ _ fun x hx h => ?_
  obtain ⟨hx1, hx2⟩ := List.mem_filter.mp hx
  have hb : x.b = p := by simpa using hx2
  have := hu x hx1
  show max h (med x.lo (lvF own st p x.a) x.hi) = max h (med x.lo (lvF own st (x.a + 1) x.a) x.hi)
  rw [lv_fuel hu p (x.a + 1) x.a (by omega) (by omega)]
theorem lev_mx {own : List Int} {st : List Sp} (hu : ∀ x ∈ st, x.a < x.b) (p : Nat) : Mx (lev own st p) (own.getD p 0 :: (st.filter fun x => decide (x.b = p)).map fun x => med x.lo (lev own st x.a) x.hi) := by
  rw [lev_eq hu p]
  exact mx_foldl (fun x : Sp => med x.lo (lev own st x.a) x.hi) _ _
theorem lev_ge {own : List Int} {st : List Sp} (hu : ∀ x ∈ st, x.a < x.b) (hg : ∀ x ∈ st, x.lo ≤ x.hi) (p : Nat) (m : Int) : m ≤ lev own st p ↔ m ≤ own.getD p 0 ∨ ∃ x ∈ st, x.b = p ∧ x.hi ≥ m ∧ (x.lo ≥ m ∨ m ≤ lev own st x.a) := by
  obtain ⟨h1, h2⟩ := lev_mx (own := own) hu p
  constructor
  · intro h
    rcases List.mem_cons.mp h1 with e | e
    · exact .inl (e ▸ h)
    · obtain ⟨x, hx, e⟩ := List.mem_map.mp e
      obtain ⟨hx1, hx2⟩ := List.mem_filter.mp hx
      rw [← e] at h
      exact .inr ⟨x, hx1, by simpa using hx2, (med_ge (hg x hx1)).mp h⟩
  · rintro (h | ⟨x, hx, hb, h⟩)
    · exact Int.le_trans h (h2 _ (.head _))
    · exact Int.le_trans ((med_ge (hg x hx)).mpr h) (h2 _ (.tail _ (List.mem_map_of_mem (f := fun x : Sp => med x.lo (lev own st x.a) x.hi) (List.mem_filter.mpr ⟨hx, by simpa using hb⟩))))
theorem reach_lev {own : List Int} {st st' : List Sp} (hp : st'.Perm st) (hs : st'.Pairwise (fun x y => x.b ≤ y.b)) (hu : ∀ x ∈ st, x.a < x.b) (hb : ∀ x ∈ st, x.b < own.length) (hg : ∀ x ∈ st, x.lo ≤ x.hi) (m : Int) :
    ∀ n p, p < n → p < own.length → ((reachF own st' m).getD p false = true ↔ m ≤ lev own st p)
  | 0, _, h, _ => by omega
  | n + 1, p, h, hp' => by
    have hf := marks_final m st' (own.map fun l => decide (l ≥ m)) (fun x hx => ⟨hu x (hp.mem_iff.mp hx), by rw [List.length_map]; exact hb x (hp.mem_iff.mp hx)⟩) hs p
    have e0 : (own.map fun l => decide (l ≥ m)).getD p false = true ↔ m ≤ own.getD p 0 := by
      simp only [List.getD_eq_getElem?_getD, List.getElem?_map, List.getElem?_eq_getElem hp', Option.map_some, Option.getD_some, decide_eq_true_eq, ge_iff_le]
    unfold reachF
    rw [hf, lev_ge hu hg, e0]
    refine or_congr Iff.rfl ⟨?_, ?_⟩
    · rintro ⟨x, hx, h1, h2, h3⟩
      have hx' := hp.mem_iff.mp hx
      have := hu x hx'
      have := hb x hx'
      exact ⟨x, hx', h1, h2, h3.imp id fun q => (reach_lev hp hs hu hb hg m n x.a (by omega) (by omega)).mp q⟩
    · rintro ⟨x, hx, h1, h2, h3⟩
      have := hu x hx
      have := hb x hx
      exact ⟨x, hp.mem_iff.mpr hx, h1, h2, h3.imp id fun q => (reach_lev hp hs hu hb hg m n x.a (by omega) (by omega)).mpr q⟩
theorem med_or (lo x hi : Int) (h : lo ≤ hi) : med lo x hi = lo ∨ med lo x hi = hi ∨ med lo x hi = x := by
  rcases Int.le_total x lo with a | a
  · exact .inl (le_ext fun m => by rw [med_ge h]; exact ⟨fun q => q.2.elim id fun q => Int.le_trans q a, fun q => ⟨Int.le_trans q h, .inl q⟩⟩)
  · rcases Int.le_total hi x with b | b
    · exact .inr (.inl (le_ext fun m => by rw [med_ge h]; exact ⟨fun q => q.1, fun q => ⟨q, .inr (Int.le_trans q b)⟩⟩))
    · exact .inr (.inr (med_in a b))
theorem lev_mem {own : List Int} {st : List Sp} (hu : ∀ x ∈ st, x.a < x.b) (hb : ∀ x ∈ st, x.b < own.length) (hg : ∀ x ∈ st, x.lo ≤ x.hi) : ∀ n p, p < n → p < own.length → lev own st p ∈ own ++ st.map (·.lo) ++ st.map (·.hi)
  | 0, _, h, _ => by omega
  | n + 1, p, h, hp' => by
    rcases List.mem_cons.mp (lev_mx (own := own) hu p).1 with e | e
    · rw [e]
      have : own.getD p 0 ∈ own := by
        simp only [List.getD_eq_getElem?_getD, List.getElem?_eq_getElem hp', Option.getD_some]
        exact List.getElem_mem _
      exact List.mem_append_left _ (List.mem_append_left _ this)
    · obtain ⟨x, hx, e⟩ := List.mem_map.mp e
      obtain ⟨hx1, hx2⟩ := List.mem_filter.mp hx
      have hbp : x.b = p := by simpa using hx2
      have h1 := hu x hx1
      have h2 := hb x hx1
      rw [← e]
      rcases med_or x.lo (lev own st x.a) x.hi (hg x hx1) with q | q | q
      · rw [q]
        exact List.mem_append_left _ (List.mem_append_right _ (List.mem_map_of_mem (f := fun x : Sp => x.lo) hx1))
      · rw [q]
        exact List.mem_append_right _ (List.mem_map_of_mem (f := fun x : Sp => x.hi) hx1)
      · rw [q]
        exact lev_mem hu hb hg n x.a (by omega) (by omega)
theorem tops_get (own : List Int) (st' : List Sp) (p : Nat) (hp : p < own.length) : ∀ (ms : List Int) (tops : List Int), tops.length = own.length →
    (ms.foldl (topStep own st') tops).getD p 0 = ms.foldl (fun t m => topOne m ((reachF own st' m).getD p false) t) (tops.getD p 0)
  | [], _, _ => rfl
  | m :: ms, tops, h => by
    rw [List.foldl_cons, List.foldl_cons, tops_get own st' p hp ms _ (by unfold topStep; rw [List.length_zipWith, reachF_len, h]; omega)]
    congr 1
    have h1 : p < (reachF own st' m).length := by rw [reachF_len]; exact hp
    have h2 : p < tops.length := by rw [h]; exact hp
    unfold topStep
    simp only [List.getD_eq_getElem?_getD, List.getElem?_zipWith, List.getElem?_eq_getElem h1, List.getElem?_eq_getElem h2, Option.getD_some]
theorem top_fold (L : Int) (r : Int → Bool) : ∀ (ms : List Int) (t : Int), (∀ m, r m = true ↔ m ≤ L) → t ≤ L → (L ∈ ms ∨ t = L) → ms.foldl (fun t m => topOne m (r m) t) t = L
  | [], t, _, _, h => by
    rcases h with h | h
    · cases h
    · exact h
  | m :: ms, t, hr, ht, h => by
    rw [List.foldl_cons]
    have hm := hr m
    refine top_fold L r ms _ hr ?_ ?_
    · unfold topOne; split
      · rename_i q; exact hm.mp q.1
      · exact ht
    · unfold topOne
      by_cases e : m = L
      · right
        split
        · exact e
        · rename_i q
          have : r m = true := hm.mpr (by omega)
          have : ¬ m > t := fun z => q ⟨this, z⟩
          omega
      · rcases h with h | h
        · left
          rcases List.mem_cons.mp h with h | h
          · exact absurd h.symm e
          · exact h
        · right
          split
          · rename_i q
            have := hm.mp q.1
            omega
          · exact h
theorem marks_eq {own : List Int} {st st' : List Sp} (hp : st'.Perm st) (hs : st'.Pairwise (fun x y => x.b ≤ y.b)) (hu : ∀ x ∈ st, x.a < x.b) (hb : ∀ x ∈ st, x.b < own.length) (hg : ∀ x ∈ st, x.lo ≤ x.hi) :
    marksF own st st' = (List.range own.length).map (lev own st) := by
  have hl : (marksF own st st').length = own.length := foldl_top_len own st' _ _ rfl
  refine List.ext_getElem (by rw [hl, List.length_map, List.length_range]) fun p h1 h2 => ?_
  have hp' : p < own.length := by rw [← hl]; exact h1
  rw [List.getElem_map, List.getElem_range]
  have e : (marksF own st st')[p] = (marksF own st st').getD p 0 := by
    simp only [List.getD_eq_getElem?_getD, List.getElem?_eq_getElem h1, Option.getD_some]
  rw [e]
  unfold marksF
  rw [tops_get own st' p hp' _ _ rfl]
  refine top_fold (lev own st p) (fun m => (reachF own st' m).getD p false) _ _ (fun m => reach_lev hp hs hu hb hg m (p + 1) p (by omega) hp') ((lev_mx hu p).2 _ (.head _)) (.inl (lev_mem hu hb hg (p + 1) p (by omega) hp'))
theorem ways_lev {own : List Int} {st : List Sp} (hu : ∀ x ∈ st, x.a < x.b) (hg : ∀ x ∈ st, x.lo ≤ x.hi) (n p : Nat) (h : p < n) : Mx (lev own st p) ((waysF st n p).map (toldW own)) := by
  have := ways_level (own := own) hu hg n p h
  rwa [lv_fuel hu n (p + 1) p h (by omega)] at this
end Mine
end
section
open PySem PySem.W PyProof.Rows PySem.Calls
set_option Elab.async false
set_option maxRecDepth 100000
namespace Mine
noncomputable section
noncomputable def IterO (l : Addr) (i : Nat) (o : Obj) : Prop := o.cls = .type "list_iterator" ∧ o.data = .fields #[.ref l, .int i 0]
theorem iter_of {h : Heap} {a l : Addr} {i : Nat} (x : ∃ o, h.get? a = some o ∧ IterO l i o) : h.IsListIter a l i := x
section
variable {B : Shared} {F F' : Heap} {own own' : Own} {s : Shared} {w : World} {A : Around} {E : Value → Shared → Prop} {env : Env} {m : Str → Option Value}

theorem letGo_iter {target : Expr} {it : Addr} {v : Value} {o : Obj} {n : String} {Q : Unit → Shared → Prop} (ho : s.heap.get? it = some o) (hc : o.cls = .type n)
    (hn : (["enumerate", "zip", "dict_itemiterator", "dict_reverseitemiterator", "odict_iterator", "itertools.zip_longest", "itertools.pairwise"].contains n) = false)
    (h : Q () s) : wpAny (model pg w) A (letOwnedTupleGo target (.ref it) v) Q E s := by
  unfold letOwnedTupleGo
  have key : wpAny (model pg w) A (do
      let (.ref r, .ref a) := (Value.ref it, v) | return
      let o ← load r
      match o.cls, o.data with
      | .type n, .fields vs =>
        if ["enumerate", "zip", "dict_itemiterator", "dict_reverseitemiterator", "odict_iterator", "itertools.zip_longest", "itertools.pairwise"].contains n && vs[0]? == some (rawInt a) then
          rule "for.unpacks-the-owned-tuple"
          updateField r 0 .none
      | _, _ => pure () : Sem Unit) Q E s := by
    cases v with
    | ref a =>
      refine wpAny_bind (wpAny_load ho ?_)
      rw [hc]
      cases o.data <;> first | exact wpAny_pure h | skip
      simp only [hn, Bool.false_and, Bool.false_eq_true, if_false]
      exact wpAny_pure h
    | _ => exact wpAny_pure h
  cases target <;> first | exact key | exact wpAny_pure h

theorem floop_list {target : Expr} {body : List Stmt} {l it : Addr} {vs : List Value} {R : Result → Shared → Prop} (hh : A.handled = none)
    (I : Nat → Heap → (Str → Option Value) → Own → Prop)
    (hl : ∀ i F₁ m₁ own₁ s₁, I i F₁ m₁ own₁ → St B F₁ ((env.locals, NsO m₁) :: (it, IterO l i) :: own₁) s₁ → s₁.heap.IsList l vs.toArray)
    (turn : ∀ i v F₁ m₁ own₁ s₁, vs[i]? = some v → I i F₁ m₁ own₁ → St B F₁ ((env.locals, NsO m₁) :: (it, IterO l (i + 1)) :: own₁) s₁ →
      wpAny (model pg w) A (assign target env v) (fun _ s₂ => wpAny (model pg w) A (execs body env) (fun f s₃ => match f with
        | .next | .cont => ∃ F₂ m₂ own₂, I (i + 1) F₂ m₂ own₂ ∧ St B F₂ ((env.locals, NsO m₂) :: (it, IterO l (i + 1)) :: own₂) s₃
        | .brk => R (.ok .next) s₃
        | .ret v => R (.ok (.ret v)) s₃) (fun _ _ => False) s₂) (fun _ _ => False) s₁)
    (fin : ∀ F₁ m₁ own₁ s₁, I vs.length F₁ m₁ own₁ → St B F₁ ((env.locals, NsO m₁) :: own₁) s₁ → R (.ok .next) s₁)
    {i₀ : Nat} (S : St B F ((env.locals, NsO m) :: (it, IterO l i₀) :: own) s) (h0 : I i₀ F m own) (hi : i₀ ≤ vs.length) :
    codeAny (model pg w) A (.forLoop target (.ref it) body [] env) R s := by
  refine codeAny_forLoop_any (fun n s' => ∃ i F₁ m₁ own₁, I i F₁ m₁ own₁ ∧ St B F₁ ((env.locals, NsO m₁) :: (it, IterO l i) :: own₁) s' ∧ i ≤ vs.length ∧ n = vs.length + 1 - i) ?_ (vs.length + 1 - i₀) ⟨i₀, F, m, own, h0, S, hi, rfl⟩
  rintro n s' ⟨i, F₁, m₁, own₁, hI, S', hi', rfl⟩
  have hL := hl _ _ _ _ _ hI S'
  have hit := iter_of S'.swap.head
  cases hv : vs[i]? with
  | none =>
    have hsz : i = vs.length := Nat.le_antisymm hi' (by simpa using hv)
    subst hsz
    refine wpAny_pyNext_list_end hh hit hL (by simpa using hv) fun h₁ he₁ => wpAny_execs_nil ?_
    exact fin _ _ _ _ hI (S'.swap.updExt he₁ s'.toks)
  | some v =>
    have hlt : i < vs.length := (List.getElem?_eq_some_iff.mp hv).1
    refine wpAny_pyNext_list_item hit hL (by simpa using hv) fun h₁ hit₁ hs₁ => ?_
    obtain ⟨o₁, e₁, q₁⟩ := hit₁
    have S₁ := (S'.swap.upd (P' := IterO l (i + 1)) hs₁ e₁ q₁ s'.toks).swap
    refine letGo_iter (n := "list_iterator") e₁ q₁.1 (by decide) ?_
    refine wpAny_mono (turn i v F₁ m₁ own₁ _ hv hI S₁) (fun _ s₂ h₂ => ?_) (fun _ _ x => x.elim)
    refine wpAny_mono h₂ (fun f s₃ h₃ => ?_) (fun _ _ x => x.elim)
    cases f with
    | next => obtain ⟨F₂, m₂, own₂, a, b⟩ := h₃; exact ⟨vs.length + 1 - (i + 1), by omega, i + 1, F₂, m₂, own₂, a, b, hlt, rfl⟩
    | cont => obtain ⟨F₂, m₂, own₂, a, b⟩ := h₃; exact ⟨vs.length + 1 - (i + 1), by omega, i + 1, F₂, m₂, own₂, a, b, hlt, rfl⟩
    | brk => exact h₃
    | ret v => exact h₃

/-- for over a list that stands as it is through the loop -/
theorem r_loop {target : Expr} {body : List Stmt} {l : Addr} {vs : List Value} {Q : Flow → Shared → Prop} (hh : A.handled = none)
    (I : Nat → Heap → (Str → Option Value) → Own → Prop) (S : St B F ((env.locals, NsO m) :: own) s) (hL : s.heap.IsList l vs.toArray) (h0 : I 0 F m own)
    (hl : ∀ i F₁ m₁ own₁ s₁, I i F₁ m₁ own₁ → St B F₁ ((env.locals, NsO m₁) :: own₁) s₁ → s₁.heap.IsList l vs.toArray)
    (turn : ∀ it i v F₁ m₁ own₁ s₁, vs[i]? = some v → I i F₁ m₁ own₁ → St B F₁ ((env.locals, NsO m₁) :: (it, IterO l (i + 1)) :: own₁) s₁ →
      wpAny (model pg w) A (assign target env v) (fun _ s₂ => wpAny (model pg w) A (execs body env) (fun f s₃ => match f with
        | .next | .cont => ∃ F₂ m₂ own₂, I (i + 1) F₂ m₂ own₂ ∧ St B F₂ ((env.locals, NsO m₂) :: (it, IterO l (i + 1)) :: own₂) s₃
        | .brk => Q .next s₃
        | .ret v => Q (.ret v) s₃) (fun _ _ => False) s₂) (fun _ _ => False) s₁)
    (fin : ∀ F₁ m₁ own₁ s₁, I vs.length F₁ m₁ own₁ → St B F₁ ((env.locals, NsO m₁) :: own₁) s₁ → Q .next s₁) :
    wpAny (model pg w) A (pyIter (.ref l)) (fun it s₂ => codeAny (model pg w) A (.forLoop target it body [] env) (fun r s' => match r with | .ok f => Q f s' | .error e => cameBackBy (model pg w) A env E e s') s₂) E s := by
  refine wpAny_pyIter_list hL ?_
  have S₁ := (S.alloc (P := IterO l 0) (o := { cls := .type "list_iterator", data := .fields #[.ref l, .int 0 0] }) rfl ⟨rfl, rfl⟩).swap
  exact floop_list hh I (fun i F₁ m₁ own₁ s₁ a b => hl i F₁ m₁ own₁ s₁ a b.swap.pop) (fun i v F₁ m₁ own₁ s₁ a b c => turn _ i v F₁ m₁ own₁ s₁ a b c) fin S₁ h0 (Nat.zero_le _)
end
end
end Mine
end
section
open PySem PySem.W PyProof.Rows PySem.Calls
set_option Elab.async false
set_option maxRecDepth 100000
namespace Mine
noncomputable section
noncomputable def fdRedS : {x : FuncData // fdAt P0 50 = x} := by
  refine' ⟨_, _⟩
  rotate_left
  conv => lhs; whnf
noncomputable def fdRed : FuncData := fdRedS.1
section
variable {B : Shared} {F F' : Heap} {own own' : Own} {s : Shared} {w : World} {A : Around} {E : Value → Shared → Prop} {env : Env} {m : Str → Option Value}

theorem iter_list {l : Addr} {items : Array Value} {Q : Value → Shared → Prop} (hl : s.heap.IsList l items)
    (h : Q (.ref s.heap.objs.size) { s with heap := s.heap.push { cls := .type "list_iterator", data := .fields #[.ref l, .int 0 0] } }) :
    wpAny (model pg w) A (call (.builtin "iter") [.ref l]) Q E s := by
  refine call_function_entry (by decide +kernel) (by decide +kernel) kdk_entry_iter (kdk_args_iter _) ?_
  unfold Builtin.«iter»
  refine wpAny_bind (m := someArgs "iter" 1 2 _) (wpAny_of_eq (a := [Value.ref l]) (by first | rfl | kernel_rfl!) ?_)
  show wpAny _ _ (pyIter (.ref l) >>= _) _ _ _
  exact wpAny_bind (wpAny_pyIter_list hl (wpAny_pure ⟨_, rfl, h⟩))

/-- what is not the mark of a missing start -/
noncomputable def NotMiss (F : Heap) (v : Value) : Prop := (∃ i t, v = .int i t) ∨ (∃ l xs, v = .ref l ∧ F.IsList l xs)
theorem is_miss {v : Value} {Q : Value → Shared → Prop} (S : St B F own s) (hB : Bs w F) (hv : NotMiss F v) (h : Q (.bool false) s) :
    wpAny (model pg w) A (compareOp .Is v (.ref 42)) Q E s := by
  rcases hv with ⟨i, t, rfl⟩ | ⟨l, xs, rfl, o, ho, hc, n, hd⟩
  · exact wpAny_is_other rfl (by intro e; cases e) h
  · have h42 : F.get? 42 = some { cls := .type "object" } := hB.K _ _ rfl
    refine wpAny_is_ref_other ?_ (S.fz _ _ ho) (S.fz _ _ h42) (by rw [hc]; decide) h
    rintro rfl
    rw [h42] at ho
    cases ho
    exact absurd hc (by decide)

theorem reduce_spec {α β : Type} {R : Heap → Value → β → Prop} {X : Heap → Value → α → Prop} {g : β → α → β} {k : Nat} {fa l : Addr} {fo : Obj} {ff : FuncData} {v₀ : Value} {b₀ : β} {vs : List Value} {xs : List α} {Q : Value → Shared → Prop}
    (S : St B F own s) (hB : Bs w F) (hA : Rm (k + 2) A) (hfo : F.get? fa = some fo) (hfd : fo.data = .func ff) (hl : F.IsList l vs.toArray) (hx : All2 (X F) vs xs)
    (hX : ∀ F F' v x, X F v x → Sub F F' → X F' v x) (h0 : R F v₀ b₀) (hm : NotMiss F v₀)
    (step : ∀ F₁ A₁ own₁ s₁ v b e x, Sub F F₁ → Rm k A₁ → St B F₁ (own₁ ++ own) s₁ → R F₁ v b → X F₁ e x → ∀ Q' : Value → Shared → Prop,
      (∀ F₂ v' s₂, Sub F₁ F₂ → St B F₂ (own₁ ++ own) s₂ → R F₂ v' (g b x) → Q' v' s₂) → wpAny (model pg w) A₁ (call (.ref fa) [v, e]) Q' (fun _ _ => False) s₁)
    (h : ∀ F' v s', Sub F F' → St B F' own s' → R F' v (xs.foldl g b₀) → Q v s') :
    wpAny (model pg w) A (call (.ref 50) [.ref fa, .ref l, v₀]) Q E s := by
  refine r_enter (k := k + 1) (fd := fdRed) (own' := own) (binds := [("function", .ref fa), ("sequence", .ref l), ("initial", v₀)]) S hB hA rfl rfl rfl ?_ (by decide) (locs rfl) fun L s₁ S₁ hA₁ => ?_
  · intro Q' hQ
    exact binds_K (k := _) (hB.K.keeps S.fz) rfl rfl rfl rfl rfl _ _ _ _ (hQ _ S)
  refine wpAny_execs_cons (wpAny_Assign_Name ?_)
  refine r_CallB S₁ hB rfl (by boot_fast) (by decide) (args_cons (r_local S₁ rfl (args_nil ?_)))
  refine iter_list (isL_sub hl S₁.fz) ?_
  have S₂ := (S₁.alloc (P := IterO l 0) (o := { cls := .type "list_iterator", data := .fields #[.ref l, .int 0 0] }) rfl ⟨rfl, rfl⟩).swap
  refine r_store S₂ fun s₃ S₃ => ?_
  refine wpAny_execs_cons (wpAny_If (wpAny_isTrue_Compare1 ?_))
  refine r_local S₃ rfl (r_global S₃ hB rfl (is_miss S₃ hB hm (wpAny_truthy_bool ?_)))
  refine wpAny_execs_cons (wpAny_Assign_Name (r_local S₃ rfl (r_store S₃ fun s₄ S₄ => wpAny_execs_nil ?_)))
  refine wpAny_execs_cons (wpAny_For (r_local S₄ rfl (wpAny_pyIter_listiter (iter_of S₄.swap.head) ?_)))
  refine floop_list (F := F) (l := l) (vs := vs) (own := own) hA₁.hd
    (fun i F₁ m₁ own₁ => own₁ = own ∧ Sub F F₁ ∧ m₁ "function" = some (.ref fa) ∧ ∃ v, m₁ "value" = some v ∧ R F₁ v ((xs.take i).foldl g b₀))
    (fun i F₁ m₁ own₁ s₁ a b => isL_sub hl (a.2.1.trans b.fz)) ?_ ?_ S₄ ⟨rfl, Sub.refl _, rfl, v₀, rfl, h0⟩ (Nat.zero_le _)
  · intro i v F₁ m₁ own₁ s₅ hv hOb1 S₅
    obtain ⟨rfl, hsub, hf, va, hva, hR⟩ := hOb1
    refine wpAny_assign_Name (r_store S₅ fun s₆ S₆ => ?_)
    refine wpAny_execs_cons (wpAny_Assign_Name ?_)
    refine r_CallV (fa := fa) (fo := fo) (ff := ff) (r_local S₆ hf ⟨rfl, ?_⟩)
    refine args_cons (r_local S₆ hva (args_cons (r_local S₆ rfl (args_nil ?_))))
    refine ⟨S₆.fz _ _ (hsub _ _ hfo), hfd, ?_⟩
    have hlt : i < vs.length := (List.getElem?_eq_some_iff.mp hv).1
    obtain ⟨x, hxi⟩ : ∃ x, xs[i]? = some x := ⟨_, List.getElem?_eq_getElem (hx.length ▸ hlt)⟩
    obtain ⟨v', hv', hXv⟩ := hx.get hxi
    rw [hv] at hv'
    cases hv'
    refine step F₁ _ [_, _] s₆ va _ v x hsub (hA₁.le (Nat.le_succ _)) S₆ hR (hX _ _ _ _ hXv hsub) _ fun F₂ v₂ s₇ hs₂ S₇ hR₂ => ?_
    refine r_store S₇ fun s₈ S₈ => wpAny_execs_nil ⟨F₂, _, _, ?_, S₈⟩
    refine ⟨rfl, hsub.trans hs₂, hf, v₂, rfl, ?_⟩
    have : (xs.take (i + 1)).foldl g b₀ = g ((xs.take i).foldl g b₀) x := by
      rw [List.take_add_one, hxi]
      simp
    rw [this]
    exact hR₂
  · intro F₁ m₁ _ s₅ hOb2 S₅
    obtain ⟨rfl, hsub, hf, va, hva, hR⟩ := hOb2
    refine wpAny_execs_cons (wpAny_Return_some (r_local S₅ hva ?_))
    rw [hx.length, List.take_length] at hR
    exact h _ _ _ hsub S₅.pop hR
end
end
end Mine
end
section
open PySem PySem.W PyProof.Rows PySem.Calls
set_option Elab.async false
set_option maxRecDepth 100000
namespace Mine
noncomputable section
section
variable {B : Shared} {F F' : Heap} {own own' : Own} {s : Shared} {w : World} {A : Around} {E : Value → Shared → Prop} {env : Env} {m : Str → Option Value}

theorem r_ListF {elts : List Expr} {pos : Pos} {Q : Value → Shared → Prop}
    (h : wpAny (model pg w) A (spliced (backTo pos (starEach elts env))) (fun vs s₁ => ∃ B F own, St B F own s₁ ∧ vs.length ≤ 1000 ∧ ∀ F₂ a s₂, Sub F F₂ → St B F₂ own s₂ → F₂.IsList a vs.toArray → Q (.ref a) s₂) E s) :
    wpAny (model pg w) A (eval (.List elts pos) env) Q E s := by
  refine wpAny_List (wpAny_mono h (fun vs s₁ h₁ => ?_) fun _ _ x => x)
  obtain ⟨B, F, own, S, hsz, h⟩ := h₁
  obtain ⟨F₂, hs, S₂, e⟩ := S.allocF (o := { cls := .type "list", data := .seq vs.toArray }) rfl
  exact ⟨Nat.le_trans hsz (by decide +kernel), h F₂ _ _ hs S₂ ⟨_, e, rfl, 0, rfl⟩⟩
theorem r_ListO {elts : List Expr} {pos : Pos} {Q : Value → Shared → Prop}
    (h : wpAny (model pg w) A (spliced (backTo pos (starEach elts env))) (fun vs s₁ => ∃ B F own, St B F own s₁ ∧ vs.length ≤ 1000 ∧ ∀ a s₂, St B F ((a, ListO vs) :: own) s₂ → Q (.ref a) s₂) E s) :
    wpAny (model pg w) A (eval (.List elts pos) env) Q E s := by
  refine wpAny_List (wpAny_mono h (fun vs s₁ h₁ => ?_) fun _ _ x => x)
  obtain ⟨B, F, own, S, hsz, h⟩ := h₁
  exact ⟨Nat.le_trans hsz (by decide +kernel), h _ _ (S.alloc (P := ListO vs) rfl ⟨0, rfl⟩)⟩

theorem tail_list {value slice : Expr} {l : Addr} {xs : List Value} {k : Int} {t : Tok} {v : Value} {Q : Value → Shared → Prop} (hl : s.heap.IsList l xs.toArray) (h0 : 0 ≤ k) (h63 : k < 2 ^ 63)
    (hx : xs[k.toNat]? = some v) (h : Q v s) (hs : subscripted slice false (.ref l) (.int k t) = operate [.ref l, .int k t] (getItem (.ref l) (.int k t)) := by rfl) :
    wpAny (model pg w) A (subscriptTail value slice (.ref l) (.int k t)) Q E s :=
  tail_any hl.typeIs slot_list_getitem.lookup (wpAny_getItem_list hl h0 h63 (by simpa using hx) h) hs
theorem tail_int {value slice : Expr} {o : Value} {ns : List Int} {k : Int} {t : Tok} {n : Int} {Q : Value → Shared → Prop} (hl : IntL s.heap o ns) (h0 : 0 ≤ k) (h63 : k < 2 ^ 63)
    (hx : ns[k.toNat]? = some n) (h : ∀ t, Q (.int n t) s) (hs : ∀ l, subscripted slice false (.ref l) (.int k t) = operate [.ref l, .int k t] (getItem (.ref l) (.int k t)) := by intro _; rfl) :
    wpAny (model pg w) A (subscriptTail value slice o (.int k t)) Q E s := by
  obtain ⟨l, vs, rfl, hL, hI⟩ := hl
  obtain ⟨t', e⟩ := hI.get _ _ hx
  exact tail_list hL h0 h63 e (h t') (hs l)
/-- x[i] of a list of ints, x a name, i written -/
theorem r_itemC {x : Str} {p p' pos : Pos} {kk : Nat} {i : Int} {v : Value} {ns : List Int} {n : Int} {Q : Value → Shared → Prop} (S : St B F ((env.locals, NsO m) :: own) s) (hm : m x = some v) (hv : IntL F v ns) (h0 : 0 ≤ i) (h63 : i < 2 ^ 63)
    (hx : ns[i.toNat]? = some n) (h : ∀ t s', St B F ((env.locals, NsO m) :: own) s' → Q (.int n t) s')
    (hk : env.scope.kind = .function := by rfl) (hl : env.kindOf x = some .local := by rfl) (hd : (x == ("__debug__" : Str)) = false := by decide) :
    wpAny (model pg w) A (eval (.Subscript (.Name x p) (.Constant (.int i) kk p') pos) env) Q E s := by
  refine Subscript_ (r_local S hm ?_ hk hl hd)
  refine r_int S fun t s₁ S₁ => ?_
  exact tail_int (hv.sub S₁.fz) h0 h63 hx fun t' => h t' _ S₁
end
/-! ## _law_through -/
noncomputable def fdThrS : {x : FuncData // fdAt P0 194 = x} := by
  refine' ⟨_, _⟩
  rotate_left
  conv => lhs; whnf
noncomputable def fdThr : FuncData := fdThrS.1
section
variable {B : Shared} {F F' : Heap} {own own' : Own} {s : Shared} {w : World} {A : Around} {E : Value → Shared → Prop} {env : Env} {m : Str → Option Value}

theorem ints2 (a b : Int) (t u : Tok) : IntsAre [.int a t, .int b u] [a, b] := .cons _ _ (.cons _ _ .nil)
theorem ints3 (a b c : Int) (t u v : Tok) : IntsAre [.int a t, .int b u, .int c v] [a, b, c] := .cons _ _ (.cons _ _ (.cons _ _ .nil))

theorem through_spec {bv gv : Value} {b0 b1 g0 g1 : Int} {Q : Value → Shared → Prop} (S : St B F own s) (hB : Bs w F) (hA : Rm 4 A)
    (hb : IntL F bv [b0, b1]) (hg : IntL F gv [g0, g1]) (h : ∀ F' v s', Sub F F' → St B F' own s' → IntL F' v [med g0 b0 g1, med g0 b1 g1] → Q v s') :
    wpAny (model pg w) A (call (.ref 194) [bv, gv]) Q E s := by
  refine r_enterP (k := 3) (fd := fdThr) S hB hA rfl rfl rfl rfl (by decide) (locs rfl) fun L s₁ S₁ hA₁ => ?_
  refine wpAny_execs_cons (wpAny_Return_some (r_ListF ?_))
  refine args_cons ?_
  refine r_CallF (fd := fdMed) S₁ hB rfl rfl (args_cons (r_ListF (args_cons ?_)))
  refine r_itemC S₁ rfl hg (by decide) (by decide) rfl fun t₂ s₂ S₂ => args_cons ?_
  refine r_itemC S₂ rfl hb (by decide) (by decide) rfl fun t₃ s₃ S₃ => args_cons ?_
  refine r_itemC S₃ rfl hg (by decide) (by decide) rfl fun t₄ s₄ S₄ => args_nil ?_
  refine ⟨_, _, _, S₄, by simp, fun F₅ a₅ s₅ hs₅ S₅ hl₅ => args_nil ⟨hB.sub (hs₅.trans S₅.fz), ?_⟩⟩
  refine median_low_spec S₅ (hB.sub hs₅) (hA₁.le (by decide)) ⟨_, _, rfl, hl₅, ints3 ..⟩ fun F₆ t₆ s₆ hs₆ S₆ => args_cons ?_
  have hs := hs₅.trans hs₆
  refine r_CallF (fd := fdMed) S₆ (hB.sub hs) rfl rfl (args_cons (r_ListF (args_cons ?_)))
  refine r_itemC S₆ rfl (hg.sub hs) (by decide) (by decide) rfl fun t₂ s₂ S₂ => args_cons ?_
  refine r_itemC S₂ rfl (hb.sub hs) (by decide) (by decide) rfl fun t₃ s₃ S₃ => args_cons ?_
  refine r_itemC S₃ rfl (hg.sub hs) (by decide) (by decide) rfl fun t₄ s₄ S₄ => args_nil ?_
  refine ⟨_, _, _, S₄, by simp, fun F₇ a₇ s₇ hs₇ S₇ hl₇ => args_nil ⟨hB.sub ((hs.trans hs₇).trans S₇.fz), ?_⟩⟩
  refine median_low_spec S₇ (hB.sub (hs.trans hs₇)) (hA₁.le (by decide)) ⟨_, _, rfl, hl₇, ints3 ..⟩ fun F₈ t₈ s₈ hs₈ S₈ => args_nil ?_
  refine ⟨_, _, _, S₈, by simp, fun F₉ a₉ s₉ hs₉ S₉ hl₉ => ?_⟩
  exact h _ _ _ (((hs.trans hs₇).trans hs₈).trans hs₉) S₉.pop ⟨_, _, rfl, hl₉, ints2 ..⟩
end
end
end Mine
end
section
open PySem PySem.W PyProof.Rows PySem.Calls
set_option Elab.async false
set_option maxRecDepth 100000
namespace Mine
noncomputable section
section
variable {B : Shared} {F F' : Heap} {own own' : Own} {s : Shared} {w : World} {A : Around} {E : Value → Shared → Prop} {env : Env} {m : Str → Option Value}

theorem add_listsB {l b : Addr} {vs ws : List Value} {Q : Value → Shared → Prop} (hl : s.heap.IsList l vs.toArray) (hb : s.heap.IsList b ws.toArray)
    (h : Q (.ref s.heap.objs.size) { s with heap := s.heap.push { cls := .type "list", data := .seq (vs ++ ws).toArray } }) (hsz : vs.length + ws.length ≤ sizeLine) :
    wpAny (model pg w) A (binaryOp .Add (.ref l) (.ref b)) Q E s := by
  obtain ⟨⟨cls, dd, data, sl⟩, ho, hc, n, hd⟩ := id hl
  obtain ⟨⟨cls2, dd2, data2, sl2⟩, ho2, hc2, n2, hd2⟩ := id hb
  simp only at hc hd hc2 hd2
  subst hc hd hc2 hd2
  refine concat_meets ⟨_, ho, rfl⟩ ⟨_, ho2, rfl⟩ noFill_list_add seq_list_add PySem.F.slot_list_add PySem.F.entry_list_add (PySem.F.args_list_add_2 _ _) (list_addW l b vs.toArray ws.toArray n n2 dd dd2 sl sl2 (by rw [List.size_toArray, List.size_toArray]; exact hsz)) ⟨ho, ho2, ?_⟩
  rw [show vs.toArray ++ ws.toArray = (vs ++ ws).toArray by simp]
  exact h
/-- two lists added: a frozen one -/
theorem r_add {l b : Addr} {vs ws : List Value} {Q : Value → Shared → Prop} (S : St B F own s) (hl : s.heap.IsList l vs.toArray) (hb : s.heap.IsList b ws.toArray) (hsz : vs.length + ws.length ≤ sizeLine)
    (h : ∀ F' a s', Sub F F' → St B F' own s' → F'.IsList a (vs ++ ws).toArray → Q (.ref a) s') : wpAny (model pg w) A (binaryOp .Add (.ref l) (.ref b)) Q E s := by
  refine add_listsB hl hb ?_ hsz
  obtain ⟨F₂, hs, S₂, e⟩ := S.allocF (o := { cls := .type "list", data := .seq (vs ++ ws).toArray }) rfl
  exact h F₂ _ _ hs S₂ ⟨_, e, rfl, 0, rfl⟩

theorem r_append {o elt : Expr} {apos pos p : Pos} {Q : Flow → Shared → Prop}
    (h : wpAny (model pg w) A (eval o env) (fun ov s₁ => ∃ D xs, ov = .ref D ∧ (∃ ob, s₁.heap.get? D = some ob ∧ ListO xs ob) ∧
      wpAny (model pg w) A (eval elt env) (fun y s₂ => ∃ B F own own' xs, St B F own s₂ ∧ Upd own D (ListO xs) (ListO (xs ++ [y])) own' ∧ xs.length ≤ sizeLine ∧ ∀ s₃, St B F own' s₃ → Q .next s₃) E s₁) E s)
    (hbase : attributeBase o "append" env (eval o env) = eval o env := by rfl)
    (hfew : ((backTo pos (starEach [elt] env)).all (fun x => !x.1) && (backToKw pos (keywordEach [] env)).all (fun x => x.1.isSome)
      && decide (([elt] : List Expr).length + ([] : List Keyword).length + (if ([] : List Keyword).isEmpty then 0 else 1) < 30)) = true := by rfl)
    (hline : (apos.endLine == pos.line) = true := by rfl) (htrees : backTo pos (starEach [elt] env) = [(false, eval elt env)] := by rfl) (hi : interactive env = false := by rfl) :
    wpAny (model pg w) A (exec (.Expr (.Call (.Attribute o "append" apos) [elt] [] pos) p) env) Q E s := by
  refine wpAny_Expr (wpAny_Call_append hbase hfew hline htrees (wpAny_mono h (fun ov s₁ h₁ => ?_) fun _ _ x => x)) hi rfl
  obtain ⟨D, xs, rfl, ⟨ob, e, n, rfl⟩, h₁⟩ := h₁
  refine ⟨D, xs.toArray, rfl, ⟨_, n, e, rfl, rfl, rfl⟩, wpAny_mono h₁ (fun y s₂ h₂ => ?_) fun _ _ x => x⟩
  obtain ⟨B, F, own, own', ys, S, u, hsz, h₂⟩ := h₂
  obtain ⟨ob, e, n', rfl⟩ := S.at u
  refine wpAny_list_append_plain ⟨_, e⟩ (fun h' hp hs => ?_) (by rw [List.size_toArray]; exact hsz)
  obtain ⟨n'', e'⟩ := hp
  exact h₂ _ (S.updAt u hs e' ⟨n'', by simp⟩ s₂.toks)

theorem draw_list {it l : Addr} {items : List Value} (hne : l ≠ it) : ∀ (n i : Nat) (s : Shared) (Q : List Value → Shared → Prop), s.heap.IsListIter it l i → s.heap.IsList l items.toArray → i + n ≤ items.length →
    (∀ h', h'.IsListIter it l (i + n) → Heap.SameBut it s.heap h' → Q ((items.drop i).take n) { s with heap := h' }) → wpAny (model pg w) A (draw (.ref it) n) Q E s
  | 0, i, s, Q, hit, _, _, hQ => by
    show wpAny _ _ (pure []) Q E s
    exact wpAny_pure (by simpa using hQ s.heap hit (Heap.SameBut.refl ..))
  | n + 1, i, s, Q, hit, ht, hle, hQ => by
    have hlt : i < items.length := by omega
    show wpAny _ _ (pyNext (.ref it) >>= _) Q E s
    refine wpAny_bind (wpAny_pyNext_list_item hit ht (x := items[i]) (by simp [hlt]) fun h₁ hit₁ hs₁ => ?_)
    refine wpAny_bind (wpAny_holding (draw_list hne n (i + 1) _ _ hit₁ (ht.extBut hs₁.extBut hne) (by omega) fun h₂ hit₂ hs₂ => wpAny_pure ?_))
    have hd : items.drop i = items[i] :: items.drop (i + 1) := List.drop_eq_getElem_cons hlt
    have := hQ h₂ (by rw [show i + (n + 1) = i + 1 + n by omega]; exact hit₂) (hs₁.trans hs₂)
    rw [hd, List.take_succ_cons] at this
    exact this
theorem unpackItems_list {l : Addr} {items : List Value} {Q : List Value → Shared → Prop} (hh : A.handled = none) (ht : s.heap.IsList l items.toArray)
    (hQ : ∀ h', Heap.ExtBut s.heap.objs.size s.heap h' → Q items { s with heap := h' }) : wpAny (model pg w) A (unpackItems (.ref l) items.length none) Q E s := by
  have hlt : l ≠ s.heap.objs.size := by obtain ⟨o, ho, _⟩ := ht; exact Nat.ne_of_lt (Heap.lt_size ho)
  unfold unpackItems
  refine wpAny_bind ?_
  unfold notIterableAtAll
  refine wpAny_bind (wpAny_specialOf ht.typeIs slot_list_iter.lookup ?_)
  refine wpAny_pure ?_
  simp only [Bool.false_eq_true, if_false]
  refine wpAny_bind (wpAny_holding (wpAny_pyIter_list ht ?_))
  refine wpAny_bind (wpAny_holding (draw_list hlt items.length 0 _ _ ⟨_, Heap.get?_push_size _ rfl, rfl, rfl⟩ (ht.push _) (by omega) fun h₁ hit₁ hs₁ => ?_))
  have hall : List.take items.length (List.drop 0 items) = items := by
    rw [List.drop_zero]; exact List.take_of_length_le (by simp)
  rw [hall]
  rw [if_neg (by simp)]
  have ht₁ : h₁.IsList l items.toArray := (ht.push _).extBut hs₁.extBut hlt
  refine wpAny_bind (wpAny_holding (wpAny_pyNext_list_end hh hit₁ ht₁ (by simp) fun h₂ he₂ => ?_))
  simp only [Option.isSome_none, Bool.false_eq_true, if_false]
  exact wpAny_pure (hQ h₂ fun b o hb e => he₂ b o hb (hs₁.extBut b o hb (Heap.get?_push_of_some _ e)))
theorem aio_nil {Q : Unit → Shared → Prop} (h : Q () s) : wpAny (model pg w) A (assignInOrder [] []) Q E s := wpAny_pure h
theorem aio_cons {t : Value → Sem Unit} {ts : List (Value → Sem Unit)} {x : Value} {xs : List Value} {Q : Unit → Shared → Prop}
    (h : wpAny (model pg w) A (t x) (fun _ s₁ => wpAny (model pg w) A (assignInOrder ts xs) Q E s₁) E s) : wpAny (model pg w) A (assignInOrder (t :: ts) (x :: xs)) Q E s := by
  rw [assignInOrder]
  exact wpAny_bind (wpAny_holding h)
theorem r_unpack {elts : List Expr} {k : Nat} {pos : Pos} {l : Addr} {items : List Value} {Q : Unit → Shared → Prop} (hh : A.handled = none) (S : St B F own s) (ht : s.heap.IsList l items.toArray)
    (hn : (assignEach elts env).length = items.length) (hstar : (assignEach elts env).findIdx? (·.1) = none)
    (h : ∀ s', St B F own s' → wpAny (model pg w) A (assignInOrder ((assignEach elts env).map (·.2)) items) Q E s') :
    wpAny (model pg w) A (assign (.Tuple elts k pos) env (.ref l)) Q E s := by
  rw [assign_Tuple]
  refine wpAny_bind (wpAny_standAt ?_)
  unfold unpack
  rw [hn, hstar]
  refine wpAny_bind (wpAny_holding (unpackItems_list hh ht fun h' he => h _ (S.keeps (fun b o e => he b o ?_ e) s.toks)))
  exact Nat.ne_of_lt (Heap.lt_size e)
end
end
end Mine
end
section
open PySem PySem.W PyProof.Rows PySem.Calls
set_option Elab.async false
set_option maxRecDepth 100000
namespace Mine
noncomputable section
noncomputable def StepP (F : Heap) (v : Value) (x : Sp) : Prop := IntL F v [x.a, x.b, x.lo, x.hi]
noncomputable def StepL := LstOf StepP
noncomputable def GateP (F : Heap) (v : Value) (x : Int × Int) : Prop := IntL F v [x.1, x.2]
noncomputable def GateL := LstOf GateP
noncomputable def WayP (F : Heap) (v : Value) (x : Way) : Prop := ∃ l t g, v = .ref l ∧ F.IsList l [.int x.1 t, g].toArray ∧ GateL F g x.2
noncomputable def WaysL := LstOf WayP
theorem StepP.sub {F F' : Heap} {v : Value} {x : Sp} (h : StepP F v x) (k : Sub F F') : StepP F' v x := IntL.sub h k
theorem GateP.sub {F F' : Heap} {v : Value} {x : Int × Int} (h : GateP F v x) (k : Sub F F') : GateP F' v x := IntL.sub h k
theorem LstOf.sub {α : Type} {R : Heap → Value → α → Prop} {F F' : Heap} {v : Value} {xs : List α} (h : LstOf R F v xs) (k : Sub F F') (hR : ∀ v x, R F v x → R F' v x) : LstOf R F' v xs :=
  let ⟨l, vs, e, a, b⟩ := h; ⟨l, vs, e, isL_sub a k, b.mono hR⟩
theorem StepL.sub {F F' : Heap} {v : Value} {xs : List Sp} (h : StepL F v xs) (k : Sub F F') : StepL F' v xs := LstOf.sub h k fun _ _ x => StepP.sub x k
theorem GateL.sub {F F' : Heap} {v : Value} {xs : List (Int × Int)} (h : GateL F v xs) (k : Sub F F') : GateL F' v xs := LstOf.sub h k fun _ _ x => GateP.sub x k
theorem WayP.sub {F F' : Heap} {v : Value} {x : Way} (h : WayP F v x) (k : Sub F F') : WayP F' v x := let ⟨l, t, g, e, a, b⟩ := h; ⟨l, t, g, e, isL_sub a k, b.sub k⟩
theorem WaysL.sub {F F' : Heap} {v : Value} {xs : List Way} (h : WaysL F v xs) (k : Sub F F') : WaysL F' v xs := LstOf.sub h k fun _ _ x => WayP.sub x k

noncomputable def fdWayS : {x : FuncData // fdAt P0 187 = x} := by
  refine' ⟨_, _⟩
  rotate_left
  conv => lhs; whnf
noncomputable def fdWay : FuncData := fdWayS.1
/-- what a step brings to the ways of p -/
noncomputable def wayPart (st : List Sp) (n p : Nat) (x : Sp) : List Way := if x.b = p then (waysF st n x.a).map fun w => (w.1, w.2 ++ [(x.lo, x.hi)]) else []
section
variable {B : Shared} {F F' : Heap} {own own' : Own} {s : Shared} {w : World} {A : Around} {E : Value → Shared → Prop} {env : Env} {m : Str → Option Value}

theorem ints4 {vs : List Value} {a b c d : Int} (h : IntsAre vs [a, b, c, d]) : ∃ t u v w, vs = [.int a t, .int b u, .int c v, .int d w] := by
  cases h with | cons _ t h => cases h with | cons _ u h => cases h with | cons _ v h => cases h with | cons _ w h => cases h; exact ⟨t, u, v, w, rfl⟩

theorem ways_spec {st : List Sp} {sv : Value} (hv : ∀ x ∈ st, x.a < x.b) (h8 : st.length ≤ 8) : ∀ (n p : Nat) {B : Shared} {F : Heap} {own : Own} {s : Shared} {A : Around} {E : Value → Shared → Prop} {t : Tok} {Q : Value → Shared → Prop},
    p < n → n ≤ 7 → St B F own s → Bs w F → Rm (n + 1) A → StepL F sv st → (∀ F' v s', Sub F F' → St B F' own s' → WaysL F' v (waysF st n p) → Q v s') →
    wpAny (model pg w) A (call (.ref 187) [.int p t, sv]) Q E s := by
  intro n
  induction n with
  | zero => intro p B F own s A E t Q hp; omega
  | succ n ih =>
    intro p B F own s A E t Q hp hn S hB hA hst h
    refine r_enterP (k := n + 1) (fd := fdWay) S hB hA rfl rfl rfl rfl (by decide) (locs rfl) fun L s₁ S₁ hA₁ => ?_
    refine wpAny_execs_cons (wpAny_Assign_Name (r_ListO (args_cons (r_ListF (args_cons (r_local S₁ rfl (args_cons (r_ListF (args_nil ?_)))))))))
    refine ⟨_, _, _, S₁, by simp, fun F₂ a₂ s₂ hs₂ S₂ hl₂ => args_nil ?_⟩
    refine ⟨_, _, _, S₂, by simp, fun F₃ a₃ s₃ hs₃ S₃ hl₃ => args_nil ?_⟩
    refine ⟨_, _, _, S₃, by simp, fun W s₄ S₄ => ?_⟩
    refine r_store S₄.swap fun s₅ S₅ => ?_
    obtain ⟨ls, vs, rfl, hls, hvs⟩ := hst
    refine wpAny_execs_cons (wpAny_For (r_local S₅ rfl ?_))
    refine r_loop (l := ls) (vs := vs) hA₁.hd
      (fun i F₁ m₁ own₁ => ∃ xs, own₁ = (W, ListO xs) :: own ∧ Sub F F₁ ∧ m₁ "place" = some (.int p t) ∧ m₁ "steps" = some (.ref ls) ∧ m₁ "ways" = some (.ref W) ∧
        All2 (WayP F₁) xs ((p, []) :: (st.take i).flatMap (wayPart st n p)))
      S₅ (isL_sub hls ((hs₂.trans hs₃).trans S₅.fz)) ⟨_, rfl, hs₂.trans hs₃, rfl, rfl, rfl, .cons ⟨_, _, _, rfl, hl₃, _, _, rfl, isL_sub hl₂ hs₃, .nil⟩ .nil⟩
      (fun i F₁ m₁ own₁ s₁ hI S => by obtain ⟨xs, _, hs, _⟩ := hI; exact isL_sub hls (hs.trans S.fz)) ?_ ?_
    · intro it i v F₁ m₁ own₁ s₆ hvi hOb1 S₆
      refine gen_turn fun Q₁ E₁ E₁' hQ₁ => ?_
      obtain ⟨xs, rfl, hsub, hmp, hms, hmw, hxs⟩ := hOb1
      have hlt : i < vs.length := (List.getElem?_eq_some_iff.mp hvi).1
      obtain ⟨x, hxi⟩ : ∃ x, st[i]? = some x := ⟨_, List.getElem?_eq_getElem (hvs.length ▸ hlt)⟩
      obtain ⟨v', hv', lx, vx, rfl, hlx, hix⟩ := hvs.get hxi
      rw [hvi] at hv'
      cases hv'
      obtain ⟨t1, t2, t3, t4, rfl⟩ := ints4 hix
      have htake : (st.take (i + 1)).flatMap (wayPart st n p) = (st.take i).flatMap (wayPart st n p) ++ wayPart st n p x := by
        rw [List.take_add_one, hxi]; simp
      refine r_unpack hA₁.hd S₆ (isL_sub hlx (hsub.trans S₆.fz)) rfl rfl fun s₇ S₇ => ?_
      refine aio_cons (wpAny_assign_Name (r_store S₇ fun s₈ S₈ => ?_))
      refine aio_cons (wpAny_assign_Name (r_store S₈ fun s₉ S₉ => ?_))
      refine aio_cons (wpAny_assign_Name (r_store S₉ fun s₁₀ S₁₀ => ?_))
      refine aio_cons (wpAny_assign_Name (r_store S₁₀ fun s₁₁ S₁₁ => aio_nil ?_))
      refine wpAny_execs_cons (wpAny_If (wpAny_isTrue_Compare1 (r_local S₁₁ rfl (r_local S₁₁ hmp (eq_int (wpAny_truthy_bool ?_))))))
      by_cases hbp : x.b = p
      · rw [if_pos (by simp [hbp])]
        have hxm : x ∈ st := List.mem_of_getElem? hxi
        have hxa := hv x hxm
        refine wpAny_execs_cons (wpAny_For (r_CallF (fd := fdWay) S₁₁ (hB.sub hsub) rfl rfl (args_cons (r_local S₁₁ rfl (args_cons (r_local S₁₁ hms (args_nil ⟨hB.sub (hsub.trans S₁₁.fz), ?_⟩)))))))
        refine ih x.a (by omega) (by omega) S₁₁ (hB.sub hsub) hA₁ ⟨ls, vs, rfl, isL_sub hls hsub, hvs.mono fun _ _ q => q.sub hsub⟩ fun F₂ v₂ s₁₂ hs₂ S₁₂ hW => ?_
        obtain ⟨lr, vr, rfl, hlr, hvr⟩ := hW
        refine r_loop (l := lr) (vs := vr) hA₁.hd
          (fun j F₃ m₃ own₃ => ∃ ys, own₃ = (it, IterO ls (i + 1)) :: (W, ListO ys) :: own ∧ Sub F₂ F₃ ∧ m₃ "place" = some (.int p t) ∧ m₃ "steps" = some (.ref ls) ∧ m₃ "ways" = some (.ref W) ∧
            m₃ "low" = some (.int x.lo t3) ∧ m₃ "high" = some (.int x.hi t4) ∧
            All2 (WayP F₃) ys (((p, []) :: (st.take i).flatMap (wayPart st n p)) ++ ((waysF st n x.a).take j).map fun w => (w.1, w.2 ++ [(x.lo, x.hi)])))
          S₁₂ (isL_sub hlr S₁₂.fz) ⟨xs, rfl, Sub.refl _, hmp, hms, hmw, rfl, rfl, by simpa using hxs.mono fun _ _ q => q.sub hs₂⟩
          (fun i F₁ m₁ own₁ s₁ hI S => by obtain ⟨xs, _, hs, _⟩ := hI; exact isL_sub hlr (hs.trans S.fz)) ?_ ?_
        · intro it₂ j v F₃ m₃ own₃ s₁₃ hvj hOb2 S₁₃
          refine gen_turn fun Q₂ E₂ E₂' hQ₂ => ?_
          obtain ⟨ys, rfl, hsub₃, hmp, hms, hmw, hml, hmh, hys⟩ := hOb2
          have hltj : j < vr.length := (List.getElem?_eq_some_iff.mp hvj).1
          obtain ⟨y, hyj⟩ : ∃ y, (waysF st n x.a)[j]? = some y := ⟨_, List.getElem?_eq_getElem (hvr.length ▸ hltj)⟩
          obtain ⟨v', hv', ly, ty, gy, rfl, hly, lg, vg, rfl, hlg, hvg⟩ := hvr.get hyj
          rw [hvj] at hv'
          cases hv'
          refine r_unpack hA₁.hd S₁₃ (isL_sub hly (hsub₃.trans S₁₃.fz)) rfl rfl fun s₁₄ S₁₄ => ?_
          refine aio_cons (wpAny_assign_Name (r_store S₁₄ fun s₁₅ S₁₅ => ?_))
          refine aio_cons (wpAny_assign_Name (r_store S₁₅ fun s₁₆ S₁₆ => aio_nil ?_))
          refine wpAny_execs_cons (r_append (r_local S₁₆ hmw ⟨W, ys, rfl, S₁₆.mem (by simp), ?_⟩))
          refine r_ListF (args_cons (r_local S₁₆ rfl (args_cons (wpAny_BinOp (r_local S₁₆ rfl (r_ListF (args_cons (r_ListF (args_cons (r_local S₁₆ hml (args_cons (r_local S₁₆ hmh (args_nil ?_)))))))))))))
          refine ⟨_, _, _, S₁₆, by simp, fun F₄ a₄ s₁₇ hs₄ S₁₇ hl₄ => args_nil ?_⟩
          refine ⟨_, _, _, S₁₇, by simp, fun F₅ a₅ s₁₈ hs₅ S₁₈ hl₅ => ?_⟩
          have hym := List.mem_of_getElem? hyj
          have hgl := waysF_gates st n x.a y hym
          refine r_add S₁₈ (isL_sub hlg (((hsub₃.trans hs₄).trans hs₅).trans S₁₈.fz)) (isL_sub hl₅ S₁₈.fz) (by rw [hvg.length]; exact Nat.le_trans (m := 8) (by simp; omega) (by decide +kernel)) fun F₆ a₆ s₁₉ hs₆ S₁₉ hl₆ => args_nil ?_
          refine ⟨_, _, _, S₁₉, by simp, fun F₇ a₇ s₂₀ hs₇ S₂₀ hl₇ => ?_⟩
          refine ⟨_, _, _, _, ys, S₂₀, .tail (.tail (.tail .head)), ?_, fun s₂₁ S₂₁ => wpAny_execs_nil (hQ₂ _ _ ⟨F₇, _, _, ?_, S₂₁⟩)⟩
          · rw [hys.length]
            have b0 : (st.length + 1) ^ n ≤ 531441 := Nat.le_trans (Nat.pow_le_pow_left (by omega : st.length + 1 ≤ 9) n) (Nat.le_trans (Nat.pow_le_pow_right (by decide) (by omega : n ≤ 6)) (by decide))
            have b1 := flatMap_len (wayPart st n p) ((st.length + 1) ^ n) (st.take i) (fun x _ => by
              unfold wayPart
              split
              · rw [List.length_map]; exact waysF_len st n x.a
              · simp)
            have b2 : (st.take i).length ≤ 8 := Nat.le_trans (List.length_take_le' ..) h8
            have b3 := Nat.mul_le_mul b2 b0
            have b4 : (((waysF st n x.a).take j).map fun w => (w.1, w.2 ++ [(x.lo, x.hi)])).length ≤ 531441 := by
              rw [List.length_map]
              exact Nat.le_trans (List.length_take_le' ..) (Nat.le_trans (waysF_len st n x.a) b0)
            have b5 : 16777216 ≤ sizeLine := by decide +kernel
            rw [List.length_append, List.length_cons]
            have b6 := Nat.mul_le_mul_left (st.take i).length b0
            refine Nat.le_trans ?_ b5
            omega
          · have h37 : Sub F₃ F₇ := (((hs₄.trans hs₅).trans hs₆).trans hs₇)
            refine ⟨_, rfl, hsub₃.trans h37, hmp, hms, hmw, hml, hmh, ?_⟩
            have e : ((waysF st n x.a).take (j + 1)).map (fun w => (w.1, w.2 ++ [(x.lo, x.hi)])) = ((waysF st n x.a).take j).map (fun w => (w.1, w.2 ++ [(x.lo, x.hi)])) ++ [(y.1, y.2 ++ [(x.lo, x.hi)])] := by
              rw [List.take_add_one, hyj]; simp
            rw [e, ← List.append_assoc]
            refine (hys.mono fun _ _ q => q.sub h37).snoc ⟨a₇, _, _, rfl, hl₇, a₆, _, rfl, isL_sub hl₆ hs₇, ?_⟩
            exact (hvg.mono fun _ _ q => q.sub (hsub₃.trans h37)).snoc ⟨a₄, _, rfl, isL_sub hl₄ ((hs₅.trans hs₆).trans hs₇), ints2 ..⟩
        · intro F₃ m₃ own₃ s₁₃ hOb3 S₁₃
          obtain ⟨ys, rfl, hsub₃, hmp, hms, hmw, hml, hmh, hys⟩ := hOb3
          refine wpAny_execs_nil (wpAny_execs_nil (hQ₁ _ _ ⟨F₃, _, _, ?_, S₁₃⟩))
          refine ⟨ys, rfl, (hsub.trans hs₂).trans hsub₃, hmp, hms, hmw, ?_⟩
          rw [hvr.length, List.take_length] at hys
          rw [htake, wayPart, if_pos hbp]
          exact hys
      · rw [if_neg (by simp only [beq_iff_eq]; omega)]
        refine wpAny_execs_nil (wpAny_execs_nil (hQ₁ _ _ ⟨F₁, _, _, ?_, S₁₁⟩))
        refine ⟨xs, rfl, hsub, hmp, hms, hmw, ?_⟩
        rw [htake, wayPart, if_neg hbp, List.append_nil]
        exact hxs
    · intro F₁ m₁ own₁ s₆ hOb4 S₆
      obtain ⟨xs, rfl, hsub, hmp, hms, hmw, hxs⟩ := hOb4
      refine wpAny_execs_cons (wpAny_Return_some (r_local S₆ hmw ?_))
      obtain ⟨F₂, hs₂, S₂, o, e, hO⟩ := S₆.pop.freeze
      refine h F₂ _ _ (hsub.trans hs₂) S₂ ⟨W, xs, rfl, list_of ⟨o, e, hO⟩, ?_⟩
      rw [hvs.length, List.take_length] at hxs
      exact hxs.mono fun _ _ x => x.sub hs₂
end
end
end Mine
end
section
open PySem PySem.W PyProof.Rows PySem.Calls
set_option Elab.async false
set_option maxRecDepth 100000
namespace Mine
noncomputable section
section
variable {B : Shared} {F F' : Heap} {own own' : Own} {s : Shared} {w : World} {A : Around} {E : Value → Shared → Prop} {env : Env} {m : Str → Option Value}

/-- one turn of a comprehension: what the walk must show -/
noncomputable def CompTurn (w : World) (A : Around) (env : Env) (B : Shared) (elt target : Expr) (ifs : List Expr) (scope : Scope) (cl : List (Str × Addr)) (I : Addr) (P : Nat → Obj → Prop) (N : Nat)
    (J : Nat → Heap → Own → List Value → Prop) (RR : Value → Addr → Shared → Prop) : Prop :=
  ∀ C D i F₁ own₁ ys s₁ mc, i ≤ N → J i F₁ own₁ ys → St B F₁ ((C, NsO mc) :: (D, ListO ys) :: (I, P i) :: own₁) s₁ →
      wpAny (model pg w) A (pyNext (.ref I)) (fun r s₂ => match r with
        | none => RR (.ref D) C s₂
        | some v => wpAny (model pg w) A (letOwnedTupleGo target (.ref I) v) (fun _ s₃ => wpAny (model pg w) A (assign target (compEnvC scope cl C env) v) (fun _ s₄ =>
            wpAny (model pg w) A (forIn ifs true fun c r => if r = true then do let ok ← isTrue c (compEnvC scope cl C env) (eval c (compEnvC scope cl C env)); pure (ForInStep.yield ok) else pure (ForInStep.yield r)) (fun ok s₅ =>
              if ok = true then wpAny (model pg w) A (eval elt (compEnvC scope cl C env)) (fun y s₆ => i < N ∧ ys.length ≤ sizeLine ∧
                ∃ F₂ own₂ mc', J (i + 1) F₂ own₂ (ys ++ [y]) ∧ St B F₂ ((C, NsO mc') :: (D, ListO ys) :: (I, P (i + 1)) :: own₂) s₆) (fun _ _ => False) s₅
              else i < N ∧ ∃ F₂ own₂ mc', J (i + 1) F₂ own₂ ys ∧ St B F₂ ((C, NsO mc') :: (D, ListO ys) :: (I, P (i + 1)) :: own₂) s₅)
            (fun _ _ => False) s₄) (fun _ _ => False) s₃) (fun _ _ => False) s₂) (fun _ _ => False) s₁

theorem comp_core {elt target iter : Expr} {ifs : List Expr} {scope : Scope} {pos : Pos} {cl : List (Str × Addr)} {I : Addr} {P : Nat → Obj → Prop} {N : Nat} {J : Nat → Heap → Own → List Value → Prop}
    {RR : Value → Addr → Shared → Prop} (hcell : ∀ y ∈ scope.names, y.2 ≠ .cell) (hkind : scope.kind = .function)
    (S : St B F ((I, P 0) :: own) s) (h0 : J 0 F own [])
    (hself : ∀ (F₁ : Heap) (own₁ : Own) (s₁ : Shared) (Q : Value → Shared → Prop), St B F₁ ((I, P 0) :: own₁) s₁ → Q (.ref I) s₁ → wpAny (model pg w) A (pyIter (.ref I)) Q (fun _ _ => False) s₁)
    (turn : CompTurn w A env B elt target ifs scope cl I P N J RR) :
    wpAny (model pg w) A (newList []) (fun acc s₃ => wpAny (model pg w) A (newFunctionEnv scope env.globals cl [] env.qual none .none (some env)) (fun cenv s₄ =>
      codeAny (model pg w) A (.compStart (.ListComp elt [⟨target, iter, ifs, 0⟩] scope pos) 0 (.ref I) acc { cenv with scope := relabel scope env }) (fun r s' => r = .ok .next ∧ RR acc cenv.locals s') s₄) E s₃) E s := by
  refine wpAny_newObj_type ?_
  have S₁ := S.alloc (P := ListO []) (o := { cls := .type "list", data := .seq ([] : List Value).toArray }) rfl ⟨0, rfl⟩
  refine wpAny_newFunctionEnv hcell (by intro y hy; simp at hy) (fun h₁ hns hsb => ?_) hkind
  obtain ⟨oc, ec, qc⟩ := of_ns hns
  have S₂ := (S₁.alloc (P := fun _ => True) (o := { cls := .type "dict", data := .dict #[] }) rfl trivial).upd (h' := h₁) (P' := NsO fun _ => none) hsb ec qc s.toks
  generalize hD : s.heap.objs.size = D at *
  generalize hC : ({ s with heap := s.heap.push { cls := .type "list", data := .seq ([] : List Value).toArray } } : Shared).heap.objs.size = C at *
  have loop : codeAny (model pg w) A (.compLoop (.ListComp elt [⟨target, iter, ifs, 0⟩] scope pos) 0 (.ref I) (.ref D) (compEnvC scope cl C env)) (fun r s' => r = .ok .next ∧ RR (.ref D) C s') { s with heap := h₁, toks := s.toks } := by
    refine codeAny_loop rfl (fun n s' => ∃ i F₁ own₁ ys mc, i ≤ N ∧ n = N + 1 - i ∧ J i F₁ own₁ ys ∧ St B F₁ ((C, NsO mc) :: (D, ListO ys) :: (I, P i) :: own₁) s') ?_ (N + 1) ⟨0, F, own, [], _, Nat.zero_le _, rfl, h0, S₂⟩
    intro n s' hOb1
    obtain ⟨i, F₁, own₁, ys, mc, hi, rfl, hJ, S'⟩ := hOb1
    show wpAny _ A ((compTurn (.ListComp elt [⟨target, iter, ifs, 0⟩] scope pos) 0 (.ref I) (.ref D) (compEnvC scope cl C env)).onRaise (fun x => do noteFrame x (compEnvC scope cl C env); theTreesLotGoes x)) _ _ s'
    refine wpAny_noted ?_
    rw [compTurn_list]
    refine wpAny_bind (wpAny_standAt (wpAny_bind (wpAny_mono (turn C D i F₁ own₁ ys s' mc hi hJ S') (fun r s₁ h₁ => ?_) fun _ _ x => x.elim)))
    cases r with
    | none => exact wpAny_pure ⟨rfl, h₁⟩
    | some v =>
      refine wpAny_bind (wpAny_mono h₁ (fun _ s₂ h₂ => wpAny_bind (wpAny_mono h₂ (fun _ s₃ h₃ => wpAny_bind (wpAny_mono h₃ (fun ok s₄ h₄ => ?_) fun _ _ x => x.elim)) fun _ _ x => x.elim)) fun _ _ x => x.elim)
      cases ok with
      | false =>
        obtain ⟨hlt, F₂, own₂, mc', hJ', S₂⟩ := h₄
        exact wpAny_pure ⟨rfl, N + 1 - (i + 1), by omega, i + 1, F₂, own₂, ys, mc', hlt, rfl, hJ', S₂⟩
      | true =>
        refine wpAny_bind (wpAny_bind (wpAny_mono h₄ (fun y s₅ h₅ => wpAny_bind ?_) fun _ _ x => x.elim))
        obtain ⟨hlt, hsz, F₂, own₂, mc', hJ', S₂⟩ := h₅
        obtain ⟨od, ed, nd, rfl⟩ := S₂.mem (a := D) (P := ListO ys) (by simp)
        refine wpAny_list_append_plain ⟨nd, ed⟩ (fun h' hp hs => ?_) (by rw [List.size_toArray]; exact hsz)
        obtain ⟨n'', e'⟩ := hp
        have S₃ := S₂.updAt (.tail .head) (P' := ListO (ys ++ [y])) hs e' ⟨n'', by simp⟩ s₅.toks
        exact wpAny_pure (wpAny_pure ⟨rfl, N + 1 - (i + 1), by omega, i + 1, F₂, own₂, ys ++ [y], mc', hlt, rfl, hJ', S₃⟩)
  have S₃ := (S₂.swap.pop.swap.pop)
  refine codeAny_compStart_list loop ?_
  refine wpAny_mono (hself F ((C, NsO fun _ => none) :: (D, ListO []) :: own) _ _ (S₂.perm ?_) loop) (fun _ _ x => x) (fun _ _ x => x.elim)
  exact (List.Perm.swap ..).trans ((List.Perm.swap ..).cons _)

/-- the value of a list comprehension: an owned list -/
theorem r_comp {elt target iter : Expr} {ifs : List Expr} {scope : Scope} {pos : Pos} {cl : List (Str × Addr)} {Q : Value → Shared → Prop}
    (hclos : closureFor scope env = pure cl) (hcell : ∀ y ∈ scope.names, y.2 ≠ .cell) (hkind : scope.kind = .function) (hnames : ∀ x ∈ scope.names, x.2 = .local → scope.names.lookup x.1 = some .local)
    (h : wpAny (model pg w) A (eval iter env) (fun x s₁ => wpAny (model pg w) A (pyIter x) (fun it s₂ => ∃ I B F own P N J, it = .ref I ∧ St B F ((I, P 0) :: own) s₂ ∧ J 0 F own [] ∧
      (∀ (F₁ : Heap) (own₁ : Own) (s₁ : Shared) (Q : Value → Shared → Prop), St B F₁ ((I, P 0) :: own₁) s₁ → Q (.ref I) s₁ → wpAny (model pg w) A (pyIter (.ref I)) Q (fun _ _ => False) s₁) ∧
      CompTurn w A env B elt target ifs scope cl I P N J (fun acc C s' => ∃ F₂ D ys mc own₂, acc = .ref D ∧ St B F₂ ((C, NsO mc) :: (D, ListO ys) :: own₂) s' ∧ ∀ s'', St B F₂ ((D, ListO ys) :: own₂) s'' → Q (.ref D) s'')) E s₁) E s)
    (hs : ∀ x, foldedSetIterable iter env x = pure x := by intro _; rfl) :
    wpAny (model pg w) A (eval (.ListComp elt [⟨target, iter, ifs, 0⟩] scope pos) env) Q E s := by
  rw [eval_ListComp]
  refine wpAny_comprehension_free (use := none) rfl hs hclos hkind hnames (wpAny_mono h (fun xv s₁ h₁ => wpAny_mono h₁ (fun it s₂ h₂ => ?_) fun _ _ e => e) fun _ _ e => e)
  obtain ⟨I, B, F, own, P, N, J, rfl, S, h0, hself, turn⟩ := h₂
  refine wpAny_mono (comp_core hcell hkind S h0 hself turn) (fun acc s₃ h₃ => wpAny_mono h₃ (fun cenv s₄ h₄ => codeAny_mono h₄ fun r s' h' => ?_) fun _ _ e => e) fun _ _ e => e
  obtain ⟨rfl, F₂, D, ys, mc, own₂, rfl, S', hQ⟩ := h'
  have hn := ns_of S'.head
  have key : ∃ m, s'.heap.Ns cenv.locals m ∧ ∀ h', Heap.SameBut cenv.locals s'.heap h' → Q (.ref D) { s' with heap := h' } := ⟨mc, hn, fun h' hs' => hQ _ (S'.updExt hs'.extBut s'.toks)⟩
  exact key

/-- x = [..]: the list is stored ahead of the letting go -/
theorem r_compA {elt target iter : Expr} {ifs : List Expr} {scope : Scope} {pos spos py : Pos} {y : Str} {cl : List (Str × Addr)} {Q : Flow → Shared → Prop}
    (hsw : swapsWith (.ListComp elt [⟨target, iter, ifs, 0⟩] scope pos) (some (.Name y py)) spos.line env = pure true)
    (hclos : closureFor scope env = pure cl) (hcell : ∀ y ∈ scope.names, y.2 ≠ .cell) (hkind : scope.kind = .function) (hnames : ∀ x ∈ scope.names, x.2 = .local → scope.names.lookup x.1 = some .local)
    (hy : env.kindOf y = some .local) (hp : (env.scope.kind == .class || (env.scope.kind == .module && env.locals != env.globals)) = false)
    (h : wpAny (model pg w) A (eval iter env) (fun x s₁ => wpAny (model pg w) A (pyIter x) (fun it s₂ => ∃ I B F own P N J, it = .ref I ∧ St B F ((I, P 0) :: own) s₂ ∧ J 0 F own [] ∧
      (∀ (F₁ : Heap) (own₁ : Own) (s₁ : Shared) (Q : Value → Shared → Prop), St B F₁ ((I, P 0) :: own₁) s₁ → Q (.ref I) s₁ → wpAny (model pg w) A (pyIter (.ref I)) Q (fun _ _ => False) s₁) ∧
      CompTurn w A env B elt target ifs scope cl I P N J (fun acc C s' => ∃ F₂ D ys mc m₂ own₂, acc = .ref D ∧ St B F₂ ((C, NsO mc) :: (D, ListO ys) :: (env.locals, NsO m₂) :: own₂) s' ∧
        ∀ s'', St B F₂ ((env.locals, NsO fun z => if z = y then some (.ref D) else m₂ z) :: (D, ListO ys) :: own₂) s'' → Q .next s'')) E s₁) E s)
    (hs : ∀ x, foldedSetIterable iter env x = pure x := by intro _; rfl) :
    wpAny (model pg w) A (exec (.Assign [.Name y py] (.ListComp elt [⟨target, iter, ifs, 0⟩] scope pos) spos) env) Q E s := by
  rw [exec_Assign_Name_used _ _ _ _ hsw]
  refine wpAny_bind (wpAny_standAt (wpAny_bind ?_))
  show wpAny _ A (do let _ ← comprehension (.ListComp elt [⟨target, iter, ifs, 0⟩] scope pos) scope env _ (newList []) false (eval iter env) (some (assign (.Name y py) env))) _ _ s
  refine wpAny_bind (wpAny_mono (wpAny_comprehension_free (use := some (assign (.Name y py) env)) (Q := fun _ s' => Q .next s') rfl hs hclos hkind hnames
    (wpAny_mono h (fun xv s₁ h₁ => wpAny_mono h₁ (fun it s₂ h₂ => ?_) fun _ _ e => e) fun _ _ e => e)) (fun _ s' hq => wpAny_pure (wpAny_pure hq)) fun _ _ e => e)
  obtain ⟨I, B, F, own, P, N, J, rfl, S, h0, hself, turn⟩ := h₂
  refine wpAny_mono (comp_core hcell hkind S h0 hself turn) (fun acc s₃ h₃ => wpAny_mono h₃ (fun cenv s₄ h₄ => codeAny_mono h₄ fun r s' h' => ?_) fun _ _ e => e) fun _ _ e => e
  obtain ⟨rfl, F₂, D, ys, mc, m₂, own₂, rfl, S', hQ⟩ := h'
  show wpAny _ A (assign (.Name y py) env (.ref D)) _ _ _
  have S₁ : St B F₂ ((env.locals, NsO m₂) :: (cenv.locals, NsO mc) :: (D, ListO ys) :: own₂) s' := S'.perm ((List.Perm.swap ..).trans ((List.Perm.swap ..).cons _))
  refine wpAny_assign_Name (wpAny_storeName_local hy (ns_of S₁.head) (fun h₂ hn₂ hs₂ => ?_) hp)
  obtain ⟨_, e₂, q₂⟩ := of_ns hn₂
  have S₂ := (S₁.upd hs₂ e₂ q₂ (s'.toks + 1)).swap
  exact ⟨mc, ns_of S₂.head, fun h₃ hs₃ => hQ _ (S₂.updExt hs₃.extBut (s'.toks + 1))⟩

/-- over a list that stands: the turn of one item -/
theorem turn_list {elt target : Expr} {ifs : List Expr} {scope : Scope} {cl : List (Str × Addr)} {I l : Addr} {vs : List Value} {J : Nat → Heap → Own → List Value → Prop} {RR : Value → Addr → Shared → Prop} (hh : A.handled = none)
    (hL : ∀ i F₁ own₁ ys s₁, J i F₁ own₁ ys → St B F₁ own₁ s₁ → s₁.heap.IsList l vs.toArray)
    (item : ∀ C D i v F₁ own₁ ys s₁ mc, vs[i]? = some v → J i F₁ own₁ ys → St B F₁ ((C, NsO mc) :: (D, ListO ys) :: (I, IterO l (i + 1)) :: own₁) s₁ →
      wpAny (model pg w) A (assign target (compEnvC scope cl C env) v) (fun _ s₄ =>
            wpAny (model pg w) A (forIn ifs true fun c r => if r = true then do let ok ← isTrue c (compEnvC scope cl C env) (eval c (compEnvC scope cl C env)); pure (ForInStep.yield ok) else pure (ForInStep.yield r)) (fun ok s₅ =>
              if ok = true then wpAny (model pg w) A (eval elt (compEnvC scope cl C env)) (fun y s₆ => ys.length ≤ sizeLine ∧
                ∃ F₂ own₂ mc', J (i + 1) F₂ own₂ (ys ++ [y]) ∧ St B F₂ ((C, NsO mc') :: (D, ListO ys) :: (I, IterO l (i + 1)) :: own₂) s₆) (fun _ _ => False) s₅
              else ∃ F₂ own₂ mc', J (i + 1) F₂ own₂ ys ∧ St B F₂ ((C, NsO mc') :: (D, ListO ys) :: (I, IterO l (i + 1)) :: own₂) s₅)
            (fun _ _ => False) s₄) (fun _ _ => False) s₁)
    (fin : ∀ C D F₁ own₁ ys s₁ mc, J vs.length F₁ own₁ ys → St B F₁ ((C, NsO mc) :: (D, ListO ys) :: own₁) s₁ → RR (.ref D) C s₁) :
    CompTurn w A env B elt target ifs scope cl I (IterO l) vs.length J RR := by
  intro C D i F₁ own₁ ys s₁ mc hi hJ S
  have hl := hL i F₁ own₁ ys s₁ hJ S.pop.pop.pop
  have Sp : St B F₁ ((I, IterO l i) :: (C, NsO mc) :: (D, ListO ys) :: own₁) s₁ := S.perm ((List.Perm.swap ..).trans ((List.Perm.swap ..).cons _))
  have hit := iter_of Sp.head
  cases hv : vs[i]? with
  | none =>
    have hsz : i = vs.length := Nat.le_antisymm hi (by simpa using hv)
    subst hsz
    exact wpAny_pyNext_list_end hh hit hl (by simp) fun h₁ he₁ => fin _ _ _ _ _ _ _ hJ (Sp.updExt he₁ s₁.toks)
  | some v =>
    have hlt : i < vs.length := (List.getElem?_eq_some_iff.mp hv).1
    refine wpAny_pyNext_list_item hit hl (by simpa using hv) fun h₁ hit₁ hs₁ => ?_
    obtain ⟨o₁, e₁, q₁⟩ := hit₁
    have S₁ := (Sp.upd (P' := IterO l (i + 1)) hs₁ e₁ q₁ s₁.toks).perm (own' := (C, NsO mc) :: (D, ListO ys) :: (I, IterO l (i + 1)) :: own₁) (((List.Perm.swap ..).trans ((List.Perm.swap ..).cons _)).symm)
    refine letGo_iter (n := "list_iterator") e₁ q₁.1 (by decide) ?_
    refine wpAny_mono (item C D i v F₁ own₁ ys _ mc hv hJ S₁) (fun _ s₂ h₂ => wpAny_mono h₂ (fun ok s₃ h₃ => ?_) fun _ _ x => x.elim) fun _ _ x => x.elim
    cases ok with
    | true => exact wpAny_mono h₃ (fun y s₄ h₄ => ⟨hlt, h₄⟩) fun _ _ x => x.elim
    | false => exact ⟨hlt, h₃⟩
theorem self_list {l : Addr} {I : Addr} (F₁ : Heap) (own₁ : Own) (s₁ : Shared) (Q : Value → Shared → Prop) (S : St B F₁ ((I, IterO l 0) :: own₁) s₁) (h : Q (.ref I) s₁) : wpAny (model pg w) A (pyIter (.ref I)) Q (fun _ _ => False) s₁ :=
  wpAny_pyIter_listiter (iter_of S.head) h
end
end
end Mine
end
section
open PySem PySem.W PyProof.Rows PySem.Calls
set_option Elab.async false
set_option maxRecDepth 100000
namespace Mine
noncomputable section
section
variable {B : Shared} {F F' : Heap} {own own' : Own} {s : Shared} {w : World} {A : Around} {E : Value → Shared → Prop} {env : Env} {m : Str → Option Value}

/-- one item of a plain comprehension -/
noncomputable def ItemOk {α β : Type} (w : World) (A : Around) (env : Env) (B : Shared) (F : Heap) (own : Own) (elt : Expr) (ifs : List Expr) (scope : Scope) (cl : List (Str × Addr)) (tgt : Str)
    (X : Heap → Value → α → Prop) (Y : Heap → Value → β → Prop) (p : α → Bool) (g : α → β) : Prop :=
  ∀ (C D : Addr) (ys : List Value) (I : Addr) (PI : Obj → Prop) (F₁ : Heap) (mc : Str → Option Value) (s₁ : Shared) (v : Value) (x : α), Sub F F₁ → X F₁ v x → St B F₁ ((C, NsO fun z => if z = tgt then some v else mc z) :: (D, ListO ys) :: (I, PI) :: own) s₁ →
    wpAny (model pg w) A (forIn ifs true fun c r => if r = true then do let ok ← isTrue c (compEnvC scope cl C env) (eval c (compEnvC scope cl C env)); pure (ForInStep.yield ok) else pure (ForInStep.yield r))
      (fun ok s₂ => ok = p x ∧ ∃ F₂, Sub F₁ F₂ ∧ St B F₂ ((C, NsO fun z => if z = tgt then some v else mc z) :: (D, ListO ys) :: (I, PI) :: own) s₂ ∧
        (ok = true → wpAny (model pg w) A (eval elt (compEnvC scope cl C env)) (fun y s₃ => ∃ F₃, Sub F₂ F₃ ∧ Y F₃ y (g x) ∧ St B F₃ ((C, NsO fun z => if z = tgt then some v else mc z) :: (D, ListO ys) :: (I, PI) :: own) s₃) (fun _ _ => False) s₂))
      (fun _ _ => False) s₁

theorem turn_simple {α β : Type} {elt : Expr} {ifs : List Expr} {scope : Scope} {cl : List (Str × Addr)} {tgt : Str} {pt : Pos} {I l : Addr} {vs : List Value} {xs : List α} {X : Heap → Value → α → Prop} {Y : Heap → Value → β → Prop} {p : α → Bool} {g : α → β}
    {RR : Value → Addr → Shared → Prop} (hh : A.handled = none) (hX : ∀ F F' v x, X F v x → Sub F F' → X F' v x) (hY : ∀ F F' v x, Y F v x → Sub F F' → Y F' v x)
    (hl : F.IsList l vs.toArray) (hxs : All2 (X F) vs xs) (hsz : vs.length ≤ sizeLine) (htg : scope.names.lookup tgt = some .local) (hkind : scope.kind = .function)
    (item : ItemOk w A env B F own elt ifs scope cl tgt X Y p g)
    (fin : ∀ C D F₁ ys s₁ mc, Sub F F₁ → All2 (Y F₁) ys ((xs.filter p).map g) → St B F₁ ((C, NsO mc) :: (D, ListO ys) :: own) s₁ → RR (.ref D) C s₁) :
    CompTurn w A env B elt (.Name tgt pt) ifs scope cl I (IterO l) vs.length (fun i F₁ own₁ ys => own₁ = own ∧ Sub F F₁ ∧ All2 (Y F₁) ys (((xs.take i).filter p).map g)) RR := by
  refine turn_list hh (fun i F₁ own₁ ys s₁ hJ S => isL_sub hl (hJ.2.1.trans S.fz)) ?_ ?_
  · intro C D i v F₁ own₁ ys s₁ mc hv hOb1 S
    obtain ⟨rfl, hs, hys⟩ := hOb1
    have hlt : i < vs.length := (List.getElem?_eq_some_iff.mp hv).1
    obtain ⟨x, hxi⟩ : ∃ x, xs[i]? = some x := ⟨_, List.getElem?_eq_getElem (hxs.length ▸ hlt)⟩
    obtain ⟨v', hv', hXv⟩ := hxs.get hxi
    rw [hv] at hv'
    cases hv'
    have htake : ((xs.take (i + 1)).filter p).map g = ((xs.take i).filter p).map g ++ if p x then [g x] else [] := by
      rw [List.take_add_one, hxi]
      cases hp : p x <;> simp [List.filter_append, hp]
    have hlen : ys.length ≤ sizeLine := by
      rw [hys.length, List.length_map]
      refine Nat.le_trans (List.length_filter_le _ _) (Nat.le_trans (List.length_take_le' _ _) ?_)
      rw [← hxs.length]; exact hsz
    refine wpAny_assign_Name (r_store (env := compEnvC scope cl C env) S (fun s₂ S₂ => ?_) (lookup_relabel_local htg) (by simp [compEnvC, relabel, hkind]))
    refine wpAny_mono (item C D ys I _ F₁ mc s₂ v x hs (hX _ _ _ _ hXv hs) S₂) (fun ok s₃ h₃ => ?_) fun _ _ x => x
    obtain ⟨rfl, F₂, hs₂, S₃, hel⟩ := h₃
    cases hp : p x with
    | true =>
      rw [if_pos rfl]
      refine wpAny_mono (hel hp) (fun y s₄ h₄ => ?_) fun _ _ x => x
      obtain ⟨F₃, hs₃, hYy, S₄⟩ := h₄
      refine ⟨hlen, F₃, _, _, ⟨rfl, (hs.trans hs₂).trans hs₃, ?_⟩, S₄⟩
      rw [htake, hp]
      exact (hys.mono fun _ _ q => hY _ _ _ _ q (hs₂.trans hs₃)).snoc hYy
    | false =>
      rw [if_neg (by simp)]
      refine ⟨F₂, _, _, ⟨rfl, hs.trans hs₂, ?_⟩, S₃⟩
      rw [htake, hp]
      simpa using hys.mono fun _ _ q => hY _ _ _ _ q hs₂
  · intro C D F₁ own₁ ys s₁ mc hOb2 S
    obtain ⟨rfl, hs, hys⟩ := hOb2
    rw [hxs.length, List.take_length] at hys
    exact fin C D F₁ ys s₁ mc hs hys S

/-- a plain comprehension over a frozen list, its value -/
theorem r_compS {α β : Type} {elt iter : Expr} {ifs : List Expr} {scope : Scope} {pos pt : Pos} {cl : List (Str × Addr)} {tgt : Str} {X : Heap → Value → α → Prop} {Y : Heap → Value → β → Prop} {p : α → Bool} {g : α → β} {Q : Value → Shared → Prop} (hh : A.handled = none)
    (hX : ∀ F F' v x, X F v x → Sub F F' → X F' v x) (hY : ∀ F F' v x, Y F v x → Sub F F' → Y F' v x)
    (hclos : closureFor scope env = pure cl) (hcell : ∀ y ∈ scope.names, y.2 ≠ .cell) (hkind : scope.kind = .function) (hnames : ∀ x ∈ scope.names, x.2 = .local → scope.names.lookup x.1 = some .local) (htg : scope.names.lookup tgt = some .local)
    (h : wpAny (model pg w) A (eval iter env) (fun x s₁ => ∃ B F own xs, St B F own s₁ ∧ LstOf X F x xs ∧ xs.length ≤ sizeLine ∧ ItemOk w A env B F own elt ifs scope cl tgt X Y p g ∧
      ∀ F' D ys s', Sub F F' → All2 (Y F') ys ((xs.filter p).map g) → St B F' ((D, ListO ys) :: own) s' → Q (.ref D) s') E s)
    (hs : ∀ x, foldedSetIterable iter env x = pure x := by intro _; rfl) :
    wpAny (model pg w) A (eval (.ListComp elt [⟨.Name tgt pt, iter, ifs, 0⟩] scope pos) env) Q E s := by
  refine r_comp hclos hcell hkind hnames (wpAny_mono h (fun x s₁ h₁ => ?_) fun _ _ x => x) hs
  obtain ⟨B, F, own, xs, S, ⟨l, vs, rfl, hl, hxs⟩, hsz, item, hQ⟩ := h₁
  refine wpAny_pyIter_list (isL_sub hl S.fz) ?_
  have S₁ := S.alloc (P := IterO l 0) (o := { cls := .type "list_iterator", data := .fields #[.ref l, .int 0 0] }) rfl ⟨rfl, rfl⟩
  refine ⟨_, B, F, own, IterO l, vs.length, _, rfl, S₁, ⟨rfl, Sub.refl _, by simpa using All2.nil⟩, self_list, turn_simple hh hX hY hl hxs (hxs.length ▸ hsz) htg hkind item ?_⟩
  intro C D F₁ ys s₂ mc hs₁ hys S₂
  exact ⟨F₁, D, ys, mc, own, rfl, S₂, fun s'' S'' => hQ F₁ D ys s'' hs₁ hys S''⟩
/-- x = [..] over a frozen list -/
theorem r_compAS {α β : Type} {elt iter : Expr} {ifs : List Expr} {scope : Scope} {pos pt spos py : Pos} {cl : List (Str × Addr)} {tgt y : Str} {X : Heap → Value → α → Prop} {Y : Heap → Value → β → Prop} {p : α → Bool} {g : α → β} {Q : Flow → Shared → Prop} (hh : A.handled = none)
    (hX : ∀ F F' v x, X F v x → Sub F F' → X F' v x) (hY : ∀ F F' v x, Y F v x → Sub F F' → Y F' v x)
    (hsw : swapsWith (.ListComp elt [⟨.Name tgt pt, iter, ifs, 0⟩] scope pos) (some (.Name y py)) spos.line env = pure true)
    (hclos : closureFor scope env = pure cl) (hcell : ∀ y ∈ scope.names, y.2 ≠ .cell) (hkind : scope.kind = .function) (hnames : ∀ x ∈ scope.names, x.2 = .local → scope.names.lookup x.1 = some .local) (htg : scope.names.lookup tgt = some .local)
    (hy : env.kindOf y = some .local) (hp : (env.scope.kind == .class || (env.scope.kind == .module && env.locals != env.globals)) = false)
    (h : wpAny (model pg w) A (eval iter env) (fun x s₁ => ∃ B F m own xs, St B F ((env.locals, NsO m) :: own) s₁ ∧ LstOf X F x xs ∧ xs.length ≤ sizeLine ∧ ItemOk w A env B F ((env.locals, NsO m) :: own) elt ifs scope cl tgt X Y p g ∧
      ∀ F' D ys s', Sub F F' → All2 (Y F') ys ((xs.filter p).map g) → St B F' ((env.locals, NsO fun z => if z = y then some (.ref D) else m z) :: (D, ListO ys) :: own) s' → Q .next s') E s)
    (hs : ∀ x, foldedSetIterable iter env x = pure x := by intro _; rfl) :
    wpAny (model pg w) A (exec (.Assign [.Name y py] (.ListComp elt [⟨.Name tgt pt, iter, ifs, 0⟩] scope pos) spos) env) Q E s := by
  refine r_compA hsw hclos hcell hkind hnames hy hp (wpAny_mono h (fun x s₁ h₁ => ?_) fun _ _ x => x) hs
  obtain ⟨B, F, m, own, xs, S, ⟨l, vs, rfl, hl, hxs⟩, hsz, item, hQ⟩ := h₁
  refine wpAny_pyIter_list (isL_sub hl S.fz) ?_
  have S₁ := S.alloc (P := IterO l 0) (o := { cls := .type "list_iterator", data := .fields #[.ref l, .int 0 0] }) rfl ⟨rfl, rfl⟩
  refine ⟨_, B, F, _, IterO l, vs.length, _, rfl, S₁, ⟨rfl, Sub.refl _, by simpa using All2.nil⟩, self_list, turn_simple hh hX hY hl hxs (hxs.length ▸ hsz) htg hkind item ?_⟩
  intro C D F₁ ys s₂ mc hs₁ hys S₂
  exact ⟨F₁, D, ys, mc, m, own, rfl, S₂, fun s'' S'' => hQ F₁ D ys s'' hs₁ hys S''⟩
end
end
end Mine
end
section
open PySem PySem.W PyProof.Rows PySem.Calls
set_option Elab.async false
set_option maxRecDepth 100000
namespace Mine
noncomputable section
section
variable {B : Shared} {F F' : Heap} {own own' : Own} {s : Shared} {w : World} {A : Around} {E : Value → Shared → Prop} {env : Env} {m : Str → Option Value}

theorem r_sum {v : Value} {ns : List Int} {Q : Value → Shared → Prop} (hh : A.handled = none) (S : St B F own s) (hv : IntL s.heap v ns)
    (h : ∀ t s', St B F own s' → Q (.int ns.sum t) s') : wpAny (model pg w) A (call (.builtin "sum") [v]) Q E s := by
  obtain ⟨l, vs, rfl, hl, hi⟩ := hv
  obtain ⟨xs, hx⟩ := hi.allInts.items
  have hl' : s.heap.IsList l (intItems xs) := hx ▸ hl
  refine sum_intListG hh hl' fun h' tk t' hk => ?_
  have e1 : ns = xs.toList.map (·.1) := by
    rw [← nums_intItems, ← hx]
    exact (show numsOf vs.toArray.toList = ns from hi.numsOf).symm
  have e2 : preSum (numAt xs) xs.size = ns.sum := by
    rw [preSum_eq, List.take_of_length_le (by simp), e1]
  rw [e2]
  exact h _ _ (S.keeps hk tk)
theorem r_min {v : Value} {ns : List Int} {Q : Value → Shared → Prop} (hh : A.handled = none) (S : St B F own s) (hv : IntL s.heap v ns) (hne : 0 < ns.length)
    (h : ∀ M t s', St B F own s' → M ∈ ns → (∀ a, a ∈ ns → M ≤ a) → Q (.int M t) s') : wpAny (model pg w) A (call (.builtin "min") [v]) Q E s := by
  obtain ⟨l, vs, rfl, hl, hi⟩ := hv
  obtain ⟨xs, e⟩ := hi.allInts.items
  have hns : ns = xs.toList.map (·.1) := by rw [← hi.numsOf, ← nums_intItems, ← e]
  have hsz : 0 < xs.size := by have h3 := hne; rw [hns, List.length_map, Array.length_toList] at h3; exact h3
  rw [e] at hl
  refine min_intList hh hl hsz fun v h' tk hv hk => ?_
  obtain ⟨t, rfl⟩ := intItems_at hv
  obtain ⟨h1, h2⟩ := argBest_lt (numAt xs) (xs.size - 1)
  refine h _ t _ (S.keeps hk tk) ?_ fun a ha => ?_
  · rw [hns, numAt_eq]; exact getD_mem (by rw [List.length_map, Array.length_toList]; omega)
  · rw [hns] at ha
    obtain ⟨j, hj, rfl⟩ := mem_getD ha
    rw [List.length_map, Array.length_toList] at hj
    rw [← numAt_eq]; exact h2 j (by omega)
theorem r_max {v : Value} {ns : List Int} {Q : Value → Shared → Prop} (hh : A.handled = none) (S : St B F own s) (hv : IntL s.heap v ns) (hne : 0 < ns.length)
    (h : ∀ M t s', St B F own s' → M ∈ ns → (∀ a, a ∈ ns → a ≤ M) → Q (.int M t) s') : wpAny (model pg w) A (call (.builtin "max") [v]) Q E s := by
  obtain ⟨l, vs, rfl, hl, hi⟩ := hv
  obtain ⟨xs, e⟩ := hi.allInts.items
  have hns : ns = xs.toList.map (·.1) := by rw [← hi.numsOf, ← nums_intItems, ← e]
  have hsz : 0 < xs.size := by have h3 := hne; rw [hns, List.length_map, Array.length_toList] at h3; exact h3
  rw [e] at hl
  refine max_intList hh hl hsz fun v h' tk hv hk => ?_
  obtain ⟨t, rfl⟩ := intItems_at hv
  obtain ⟨h1, h2⟩ := argBest_gt (numAt xs) (xs.size - 1)
  refine h _ t _ (S.keeps hk tk) ?_ fun a ha => ?_
  · rw [hns, numAt_eq]; exact getD_mem (by rw [List.length_map, Array.length_toList]; omega)
  · rw [hns] at ha
    obtain ⟨j, hj, rfl⟩ := mem_getD ha
    rw [List.length_map, Array.length_toList] at hj
    rw [← numAt_eq]; exact h2 j (by omega)
theorem r_len {l : Addr} {xs : List Value} {Q : Value → Shared → Prop} (S : St B F own s) (hl : s.heap.IsList l xs.toArray) (h63 : xs.length < 2 ^ 62)
    (h : ∀ t s', St B F own s' → Q (.int xs.length t) s') : wpAny (model pg w) A (call (.builtin "len") [.ref l]) Q E s := by
  refine call_len_list hl (by rw [List.size_toArray]; omega) ?_
  rw [List.size_toArray]
  exact h _ _ (S.tok _)

/-! ### ranges -/
noncomputable def RIterO (x left step : Int) (o : Obj) : Prop := o = { cls := .type "range_iterator", dict := none, data := .fields #[rawInt x, rawInt left, rawInt step], slots := #[] }
theorem rIter_of {h : Heap} {a : Addr} {x left step : Int} (q : ∃ o, h.get? a = some o ∧ RIterO x left step o) : IsRangeIter h a x left step := by obtain ⟨o, e, rfl⟩ := q; exact e

/-- a call of a built-in type by its name -/
theorem r_CallT {x : Str} {id : String} {p pos : Pos} {e : Expr} {rest : List Expr} {Q : Value → Shared → Prop} (S : St B F own s) (hB : Bs w F)
    (en : nsIn (topK w.params) mainGlobals x = some none) (hv : bootBuiltins x = some (.type id)) (hn : x ≠ "__name__")
    (h : wpAny (model pg w) A (spliced (backTo pos (starEach (e :: rest) env))) (fun vs s₁ => wpAny (model pg w) A (call (.type id) vs) Q E s₁) E s)
    (hg : env.globals = mainGlobals := by rfl) (hb : env.builtins = builtinsNs := by rfl) (hk : env.scope.kind = .function := by rfl) (hx : env.kindOf x = some .globalImplicit := by rfl) (hdb : (x == ("__debug__" : Str)) = false := by decide)
    (he : starEach (e :: rest) env = (false, eval e env) :: starEach rest env := by rfl) (hplain : (backTo pos (starEach rest env)).any (·.1) = false := by rfl) :
    wpAny (model pg w) A (eval (.Call (.Name x p) (e :: rest) [] pos) env) Q E s := by
  refine Call_ (r_builtin S hB en hv hn ?_ hg hb hk hx hdb)
  rw [he] at h ⊢
  refine PyProof.Rows.callWith_type (by show (false || (backTo pos (starEach rest env)).any (·.1)) = false; rw [hplain]; rfl) (evalArgs_plain ?_)
  exact h
theorem r_range1 {n : Int} {t : Tok} {Q : Value → Shared → Prop} (S : St B F own s) (h : ∀ F' r t1 t2 s', Sub F F' → St B F' own s' → IsRange F' r 0 n 1 t1 t t2 → Q (.ref r) s') :
    wpAny (model pg w) A (call (.type "range") [.int n t]) Q E s := by
  refine call_range_1 ?_
  obtain ⟨F', hs, S', e⟩ := S.allocF (o := { cls := .type "range", data := .fields #[.int 0 s.toks, .int n t, .int 1 (s.toks + 1)] }) rfl
  exact h F' _ _ _ _ hs (S'.tok _) e

theorem floop_range {target : Expr} {body : List Stmt} {it : Addr} {a c : Int} {N : Nat} {R : Result → Shared → Prop} (hh : A.handled = none)
    (I : Nat → Heap → (Str → Option Value) → Own → Prop)
    (turn : ∀ i t F₁ m₁ own₁ s₁, i < N → I i F₁ m₁ own₁ → St B F₁ ((env.locals, NsO m₁) :: (it, RIterO (a + (i + 1 : Nat) * c) (N - (i + 1 : Nat)) c) :: own₁) s₁ →
      wpAny (model pg w) A (assign target env (.int (a + i * c) t)) (fun _ s₂ => wpAny (model pg w) A (execs body env) (fun f s₃ => match f with
        | .next | .cont => ∃ F₂ m₂ own₂, I (i + 1) F₂ m₂ own₂ ∧ St B F₂ ((env.locals, NsO m₂) :: (it, RIterO (a + (i + 1 : Nat) * c) (N - (i + 1 : Nat)) c) :: own₂) s₃
        | .brk => R (.ok .next) s₃
        | .ret v => R (.ok (.ret v)) s₃) (fun _ _ => False) s₂) (fun _ _ => False) s₁)
    (fin : ∀ F₁ m₁ own₁ s₁, I N F₁ m₁ own₁ → St B F₁ ((env.locals, NsO m₁) :: own₁) s₁ → R (.ok .next) s₁)
    (S : St B F ((env.locals, NsO m) :: (it, RIterO a N c) :: own) s) (h0 : I 0 F m own) :
    codeAny (model pg w) A (.forLoop target (.ref it) body [] env) R s := by
  refine codeAny_forLoop_any (fun n s' => ∃ i F₁ m₁ own₁, I i F₁ m₁ own₁ ∧ St B F₁ ((env.locals, NsO m₁) :: (it, RIterO (a + (i : Nat) * c) (N - (i : Nat)) c) :: own₁) s' ∧ i ≤ N ∧ n = N + 1 - i) ?_ (N + 1) ⟨0, F, m, own, h0, by simpa using S, Nat.zero_le _, rfl⟩
  rintro n s' ⟨i, F₁, m₁, own₁, hI, S', hi', rfl⟩
  have hit := rIter_of S'.swap.head
  by_cases hlt : i < N
  · refine wpAny_pyNext_range_item hit (by omega) fun h₁ hit₁ hs₁ => ?_
    have q₁ : RIterO (a + (i + 1 : Nat) * c) (N - (i + 1 : Nat)) c { cls := .type "range_iterator", dict := none, data := .fields #[rawInt (a + i * c + c), rawInt (N - i - 1), rawInt c], slots := #[] } := by
      show _ = _
      have e1 : a + (i : Int) * c + c = a + ((i + 1 : Nat) : Int) * c := by rw [Int.natCast_add, Int.add_mul]; simp; omega
      have e2 : (N : Int) - i - 1 = N - ((i + 1 : Nat) : Int) := by omega
      rw [e1, e2]
    have S₁ := (S'.swap.upd (P' := RIterO (a + (i + 1 : Nat) * c) (N - (i + 1 : Nat)) c) hs₁ hit₁ q₁ (s'.toks + 1)).swap
    refine letGo_iter (n := "range_iterator") hit₁ rfl (by decide) ?_
    refine wpAny_mono (turn i _ F₁ m₁ own₁ _ hlt hI S₁) (fun _ s₂ h₂ => ?_) (fun _ _ x => x.elim)
    refine wpAny_mono h₂ (fun f s₃ h₃ => ?_) (fun _ _ x => x.elim)
    cases f with
    | next => obtain ⟨F₂, m₂, own₂, a, b⟩ := h₃; exact ⟨N + 1 - (i + 1), by omega, i + 1, F₂, m₂, own₂, a, b, hlt, rfl⟩
    | cont => obtain ⟨F₂, m₂, own₂, a, b⟩ := h₃; exact ⟨N + 1 - (i + 1), by omega, i + 1, F₂, m₂, own₂, a, b, hlt, rfl⟩
    | brk => exact h₃
    | ret v => exact h₃
  · have hN : i = N := by omega
    subst hN
    refine wpAny_pyNext_range_end hh hit (by omega) fun h₁ he₁ => wpAny_execs_nil ?_
    exact fin _ _ _ _ hI (S'.swap.updExt he₁ s'.toks)

/-- for over a range of N numbers -/
theorem r_loopR {target : Expr} {body : List Stmt} {r : Addr} {a b c : Int} {t u v : Tok} {N : Nat} {Q : Flow → Shared → Prop} (hh : A.handled = none)
    (I : Nat → Heap → (Str → Option Value) → Own → Prop) (S : St B F ((env.locals, NsO m) :: own) s) (hr : IsRange F r a b c t u v) (hsm : Builtin.Range.small a b c = true) (hN : Builtin.Range.rangeSize a b c = N) (h0 : I 0 F m own)
    (turn : ∀ it i t F₁ m₁ own₁ s₁, i < N → I i F₁ m₁ own₁ → St B F₁ ((env.locals, NsO m₁) :: (it, RIterO (a + (i + 1 : Nat) * c) (N - (i + 1 : Nat)) c) :: own₁) s₁ →
      wpAny (model pg w) A (assign target env (.int (a + i * c) t)) (fun _ s₂ => wpAny (model pg w) A (execs body env) (fun f s₃ => match f with
        | .next | .cont => ∃ F₂ m₂ own₂, I (i + 1) F₂ m₂ own₂ ∧ St B F₂ ((env.locals, NsO m₂) :: (it, RIterO (a + (i + 1 : Nat) * c) (N - (i + 1 : Nat)) c) :: own₂) s₃
        | .brk => Q .next s₃
        | .ret v => Q (.ret v) s₃) (fun _ _ => False) s₂) (fun _ _ => False) s₁)
    (fin : ∀ F₁ m₁ own₁ s₁, I N F₁ m₁ own₁ → St B F₁ ((env.locals, NsO m₁) :: own₁) s₁ → Q .next s₁) :
    wpAny (model pg w) A (pyIter (.ref r)) (fun it s₂ => codeAny (model pg w) A (.forLoop target it body [] env) (fun r s' => match r with | .ok f => Q f s' | .error e => cameBackBy (model pg w) A env E e s') s₂) E s := by
  refine wpAny_pyIter_range (S.fz _ _ hr) hsm ?_
  rw [hN]
  have S₁ := (S.alloc (P := RIterO a N c) (o := { cls := .type "range_iterator", data := .fields #[rawInt a, rawInt N, rawInt c] }) rfl rfl).swap
  exact floop_range hh I (fun i t F₁ m₁ own₁ s₁ h1 h2 h3 => turn _ i t F₁ m₁ own₁ s₁ h1 h2 h3) fin S₁ h0
theorem small_nat {N : Nat} (h : N < 2 ^ 62) : Builtin.Range.small 0 N 1 = true := small_one (by decide) (by decide) (by omega) (by omega)
theorem size_nat (N : Nat) : Builtin.Range.rangeSize 0 N 1 = N := by rw [rangeSize_one]; split <;> omega
end
end
end Mine
end
section
open PySem PySem.W PyProof.Rows PySem.Calls
set_option Elab.async false
set_option maxRecDepth 100000
namespace Mine
noncomputable section
noncomputable def CellO (v : Option Value) (o : Obj) : Prop := o.data = .cell v
section
variable {B : Shared} {F F' : Heap} {own own' : Own} {s : Shared} {w : World} {A : Around} {E : Value → Shared → Prop} {env : Env} {m : Str → Option Value}

/-- a def whose locals are captured is entered -/
theorem r_enterC {k : Nat} {a : Addr} {fd : FuncData} {body : List Stmt} {args : List Value} {binds : List (Str × Value)} {Q : Value → Shared → Prop}
    (S : St B F own s) (hB : Bs w F) (hA : Rm (k + 1) A) (ho : (topK w.params).lookup a = some (fnObj fd)) (hcd : codeIn (topK w.params) fd.code fd.qualname = true) (hbody : fd.body = .stmts body)
    (hbind : bindArgs fd ⟨args, []⟩ = pure binds) (hclo : fd.closure = [])
    (hloc : ∀ x ∈ binds, fd.scope.names.lookup x.1 = some .local)
    (hlk : ∀ L p, p ∈ cellsFrom (L + 1) fd.scope.names [] → (cellsFrom (L + 1) fd.scope.names []).lookup p.1 = some p.2)
    (h : ∀ L s', St B F ((L, NsO (bindL (callEnvC fd L a).kindOf binds fun _ => none)) :: ((cellsFrom (L + 1) fd.scope.names []).map (fun p => (p.2, CellO none)) ++ own)) s' → Rm k (A.deeper (callEnvC fd L a)) →
      wpAny (model pg w) (A.deeper (callEnvC fd L a)) (execs body (callEnvC fd L a)) (fun f s'' => Q (match f with | .ret v => v | _ => .none) s'') (fun _ _ => False) s')
    (hco : fd.scope.isCoroutine = false := by rfl) (hgen : fd.scope.isGenerator = false := by rfl) (hk : fd.scope.kind = .function := by rfl)
    (hbc : bindC (callEnvC fd 0 a).kindOf binds (fun _ => none) = fun _ => none := by rfl) :
    wpAny (model pg w) A (call (.ref a) args) Q E s := by
  refine wpAny_call ?_
  refine codeAny_call_cells (fd := fd) hA.depth (S.fz _ _ (hB.K _ _ ho)) rfl (bs_nolimit (hB.sub S.fz)) ((codeRec_of hB.K hcd).keeps S.fz) hbody hbind hclo (fun x hx => .inl (hloc x hx)) ?_ hco hgen hk
  intro s₁ x
  have hcm : bindC (callEnvC fd s.heap.objs.size a).kindOf binds (fun _ => none) = fun _ => none := hbc
  rw [hcm] at x
  obtain ⟨h₁, tk, rfl⟩ := x.toInCall.same
  obtain ⟨oL, eL, qL⟩ := of_ns x.toInCall.ns
  have hge : ∀ p ∈ cellsFrom (s.heap.objs.size + 1) fd.scope.names [], s.heap.objs.size < p.2 := fun p hp => x.above p.1 p.2 hp
  have hcells : ∀ p ∈ cellsFrom (s.heap.objs.size + 1) fd.scope.names [], h₁.IsCell p.2 none := fun p hp => x.cell p.1 p.2 (hlk _ p hp)
  have S₁ : St B F ((s.heap.objs.size, NsO (bindL (callEnvC fd s.heap.objs.size a).kindOf binds fun _ => none)) :: ((cellsFrom (s.heap.objs.size + 1) fd.scope.names []).map (fun p => (p.2, CellO none)) ++ own)) { s with heap := h₁, toks := tk } := by
    have S0 := S.keeps (h' := h₁) x.toInCall.keep tk
    have hnone : ∀ b, s.heap.objs.size ≤ b → F.get? b = none := fun b hb => by
      cases q : F.get? b with
      | none => rfl
      | some o => exact absurd (Heap.lt_size (S.fz _ _ q)) (Nat.not_lt.mpr hb)
    refine ⟨S0.gens, S0.os, S0.dr, S0.fz, fun p hp => ?_, ?_⟩
    · rcases List.mem_cons.mp hp with rfl | hp
      · exact ⟨hnone _ (Nat.le_refl _), oL, eL, qL⟩
      · rcases List.mem_append.mp hp with hp | hp
        · obtain ⟨q, hq, rfl⟩ := List.mem_map.mp hp
          obtain ⟨o, e, hd⟩ := hcells q hq
          exact ⟨hnone _ (Nat.le_of_lt (hge q hq)), o, e, hd⟩
        · exact S0.ow p hp
    · rw [List.map_cons, List.map_append, List.map_map]
      refine List.nodup_cons.mpr ⟨fun hm => ?_, List.nodup_append.mpr ⟨?_, S.nd, ?_⟩⟩
      · rcases List.mem_append.mp hm with hm | hm
        · obtain ⟨q, hq, e⟩ := List.mem_map.mp hm
          have e' : q.2 = s.heap.objs.size := e
          exact absurd (hge q hq) (by rw [e']; exact Nat.lt_irrefl _)
        · exact S.notin (Nat.le_refl _) hm
      · exact List.pairwise_map.mpr x.apart
      · intro b hb c hc e
        subst e
        obtain ⟨q, hq, e⟩ := List.mem_map.mp hb
        have e' : q.2 = b := e
        exact S.notin (a := b) (e' ▸ Nat.le_of_lt (hge q hq)) hc
  exact wpAny_mono (h _ _ S₁ (hA.deeper _)) (fun _ _ x => x) (fun _ _ x => x.elim)

theorem cell_of {h : Heap} {c : Addr} {v : Option Value} (x : ∃ o, h.get? c = some o ∧ CellO v o) : h.IsCell c v := x
theorem r_cell {x : Str} {pos : Pos} {c : Addr} {v : Value} {Q : Value → Shared → Prop} (S : St B F own s) (hm : (c, CellO (some v)) ∈ own) (hc : env.cells.lookup x = some c) (h : Q v s)
    (hk : env.scope.kind = .function := by rfl) (hl : env.kindOf x = some .cell := by rfl) (hd : (x == ("__debug__" : Str)) = false := by decide) :
    wpAny (model pg w) A (eval (.Name x pos) env) Q E s := wpAny_Name (wpAny_loadName_cell hk hl hc (cell_of (S.mem hm)) h) hd
theorem r_storeC {x : Str} {c : Addr} {v₀ : Option Value} {v : Value} {Q : Unit → Shared → Prop} (S : St B F own s) (hc : env.cells.lookup x = some c) (u : Upd own c (CellO v₀) (CellO (some v)) own')
    (h : ∀ s', St B F own' s' → Q () s') (hk : env.scope.kind = .function := by rfl) (hl : env.kindOf x = some .cell := by rfl) :
    wpAny (model pg w) A (storeName env x v) Q E s :=
  wpAny_storeName_cell hk hl hc (cell_of (S.at u)) fun h' hc' hs => let ⟨_, e, q⟩ := hc'; h _ (S.updAt u hs e q s.toks)
end

end
end Mine
end
section
open PySem PySem.W PyProof.Rows PySem.Calls
set_option Elab.async false
set_option maxRecDepth 100000
set_option maxHeartbeats 4000000
namespace Mine
noncomputable section
noncomputable def IsI (_ : Heap) (v : Value) (n : Int) : Prop := ∃ t, v = .int n t
theorem isI_sub (F F' : Heap) (v : Value) (n : Int) (h : IsI F v n) (_ : Sub F F') : IsI F' v n := h
theorem all2_of_ints {F : Heap} {vs : List Value} {ns : List Int} (h : IntsAre vs ns) : All2 (IsI F) vs ns := by
  induction h with
  | nil => exact .nil
  | cons n t _ ih => exact .cons ⟨t, rfl⟩ ih
theorem ints_of_all2 {F : Heap} {vs : List Value} {ns : List Int} (h : All2 (IsI F) vs ns) : IntsAre vs ns := by
  induction h with
  | nil => exact .nil
  | cons x _ ih => obtain ⟨t, rfl⟩ := x; exact .cons _ t ih
theorem IntL.lst {F : Heap} {v : Value} {ns : List Int} (h : IntL F v ns) : LstOf IsI F v ns := let ⟨l, vs, e, a, b⟩ := h; ⟨l, vs, e, a, all2_of_ints b⟩
section
variable {B : Shared} {F F' : Heap} {own own' : Own} {s : Shared} {w : World} {A : Around} {E : Value → Shared → Prop} {env : Env} {m : Str → Option Value}

theorem turn_range {elt target : Expr} {ifs : List Expr} {scope : Scope} {cl : List (Str × Addr)} {I : Addr} {a c : Int} {N : Nat} {J : Nat → Heap → Own → List Value → Prop} {RR : Value → Addr → Shared → Prop} (hh : A.handled = none)
    (item : ∀ C D i t F₁ own₁ ys s₁ mc, i < N → J i F₁ own₁ ys → St B F₁ ((C, NsO mc) :: (D, ListO ys) :: (I, RIterO (a + (i + 1 : Nat) * c) (N - (i + 1 : Nat)) c) :: own₁) s₁ →
      wpAny (model pg w) A (assign target (compEnvC scope cl C env) (.int (a + i * c) t)) (fun _ s₄ =>
            wpAny (model pg w) A (forIn ifs true fun c r => if r = true then do let ok ← isTrue c (compEnvC scope cl C env) (eval c (compEnvC scope cl C env)); pure (ForInStep.yield ok) else pure (ForInStep.yield r)) (fun ok s₅ =>
              if ok = true then wpAny (model pg w) A (eval elt (compEnvC scope cl C env)) (fun y s₆ => ys.length ≤ sizeLine ∧
                ∃ F₂ own₂ mc', J (i + 1) F₂ own₂ (ys ++ [y]) ∧ St B F₂ ((C, NsO mc') :: (D, ListO ys) :: (I, RIterO (a + (i + 1 : Nat) * c) (N - (i + 1 : Nat)) c) :: own₂) s₆) (fun _ _ => False) s₅
              else ∃ F₂ own₂ mc', J (i + 1) F₂ own₂ ys ∧ St B F₂ ((C, NsO mc') :: (D, ListO ys) :: (I, RIterO (a + (i + 1 : Nat) * c) (N - (i + 1 : Nat)) c) :: own₂) s₅)
            (fun _ _ => False) s₄) (fun _ _ => False) s₁)
    (fin : ∀ C D F₁ own₁ ys s₁ mc, J N F₁ own₁ ys → St B F₁ ((C, NsO mc) :: (D, ListO ys) :: own₁) s₁ → RR (.ref D) C s₁) :
    CompTurn w A env B elt target ifs scope cl I (fun i => RIterO (a + (i : Nat) * c) (N - (i : Nat)) c) N J RR := by
  intro C D i F₁ own₁ ys s₁ mc hi hJ S
  have Sp : St B F₁ ((I, RIterO (a + (i : Nat) * c) (N - (i : Nat)) c) :: (C, NsO mc) :: (D, ListO ys) :: own₁) s₁ := S.perm ((List.Perm.swap ..).trans ((List.Perm.swap ..).cons _))
  have hit := rIter_of Sp.head
  by_cases hlt : i < N
  · refine wpAny_pyNext_range_item hit (by omega) fun h₁ hit₁ hs₁ => ?_
    have q₁ : RIterO (a + (i + 1 : Nat) * c) (N - (i + 1 : Nat)) c { cls := .type "range_iterator", dict := none, data := .fields #[rawInt (a + i * c + c), rawInt (N - i - 1), rawInt c], slots := #[] } := by
      show _ = _
      have e1 : a + (i : Int) * c + c = a + ((i + 1 : Nat) : Int) * c := by rw [Int.natCast_add, Int.add_mul]; simp; omega
      have e2 : (N : Int) - i - 1 = N - ((i + 1 : Nat) : Int) := by omega
      rw [e1, e2]
    have S₁ := (Sp.upd (P' := RIterO (a + (i + 1 : Nat) * c) (N - (i + 1 : Nat)) c) hs₁ hit₁ q₁ (s₁.toks + 1)).perm (own' := (C, NsO mc) :: (D, ListO ys) :: (I, RIterO (a + (i + 1 : Nat) * c) (N - (i + 1 : Nat)) c) :: own₁) (((List.Perm.swap ..).trans ((List.Perm.swap ..).cons _)).symm)
    refine letGo_iter (n := "range_iterator") hit₁ rfl (by decide) ?_
    refine wpAny_mono (item C D i _ F₁ own₁ ys _ mc hlt hJ S₁) (fun _ s₂ h₂ => wpAny_mono h₂ (fun ok s₃ h₃ => ?_) fun _ _ x => x.elim) fun _ _ x => x.elim
    cases ok with
    | true => exact wpAny_mono h₃ (fun y s₄ h₄ => ⟨hlt, h₄⟩) fun _ _ x => x.elim
    | false => exact ⟨hlt, h₃⟩
  · have hN : i = N := by omega
    subst hN
    exact wpAny_pyNext_range_end hh hit (by omega) fun h₁ he₁ => fin _ _ _ _ _ _ _ hJ (Sp.updExt he₁ s₁.toks)

theorem self_range {x left step : Int} {I : Addr} (F₁ : Heap) (own₁ : Own) (s₁ : Shared) (Q : Value → Shared → Prop) (S : St B F₁ ((I, RIterO x left step) :: own₁) s₁) (h : Q (.ref I) s₁) :
    wpAny (model pg w) A (pyIter (.ref I)) Q (fun _ _ => False) s₁ := by
  exact wpAny_pyIter_rangeiter (rIter_of S.head) h

/-- x[:k] of a list of ints: a frozen list -/
theorem r_upto {value : Expr} {p p' pos : Pos} {kk k : Nat} {Q : Value → Shared → Prop}
    (h : wpAny (model pg w) A (eval value env) (fun o s₁ => ∃ B F own ns, St B F own s₁ ∧ IntL F o ns ∧ ns.length ≤ 1000 ∧ ∀ F' v s', Sub F F' → St B F' own s' → IntL F' v (ns.take k) → Q v s') E s)
    (ht : ∀ o r, letTemporaryGo value o r = pure () := by intro _ _; rfl) :
    wpAny (model pg w) A (eval (.Subscript value (.Slice none (some (.Constant (.int k) kk p')) none p) pos) env) Q E s := by
  refine wpAny_Subscript_list_slice (wpAny_mono h (fun o s₁ h₁ => ?_) fun _ _ x => x) ht
  obtain ⟨B, F, own, ns, S, ⟨l, vs, rfl, hl, hi⟩, hsz, h⟩ := h₁
  rw [evalPart_none]
  refine wpAny_pure ?_
  rw [evalPart_some]
  refine r_int S fun t s₂ S₂ => ⟨l, vs.toArray, none, some k, rfl, isL_sub hl S₂.fz, ?_, .none, .int _ _, ?_⟩
  · rw [List.size_toArray, hi.length]; exact Nat.le_trans hsz (by decide +kernel)
  · rw [slicePick_upto']
    have S₃ := S₂.keeps (h' := s₂.heap.push { cls := .type "slice", data := .fields #[.none, .int k t, .none] }) (fun b o e => Heap.get?_push_of_some _ e) s₂.toks
    obtain ⟨F', hs, S', e⟩ := S₃.allocF (o := { cls := .type "list", data := .seq (vs.take k).toArray }) rfl
    rw [show ({ s₂ with heap := s₂.heap.push { cls := .type "slice", data := .fields #[.none, .int k t, .none] }, toks := s₂.toks } : Shared).heap.objs.size = s₂.heap.objs.size + 1 from Heap.size_push ..] at e
    exact h F' _ _ hs S' ⟨_, vs.take k, rfl, ⟨_, e, rfl, 0, rfl⟩, hi.take k⟩
end
noncomputable def fdPlanS : {x : FuncData // fdAt P0 175 = x} := by
  refine' ⟨_, _⟩
  rotate_left
  conv => lhs; whnf
noncomputable def fdPlan : FuncData := fdPlanS.1

section
variable {B : Shared} {F F' : Heap} {own own' : Own} {s : Shared} {w : World} {A : Around} {E : Value → Shared → Prop} {env : Env} {m : Str → Option Value}
noncomputable def IsTupF (F : Heap) (v : Value) (xs : List Value) : Prop := ∃ a, v = .ref a ∧ F.get? a = some { cls := .type "tuple", data := .seq xs.toArray }
/-- what a plan is -/
structure PlanOk (own : List Int) (st : List Sp) : Prop where
  lo : 3 ≤ own.length
  hi : own.length ≤ 6
  few : st.length ≤ 8
  up : ∀ x ∈ st, x.a < x.b
  inn : ∀ x ∈ st, x.b < own.length
  gate : ∀ x ∈ st, x.lo ≤ x.hi

theorem plan_spec {v : Value} {ns : List Int} {Q : Value → Shared → Prop} (S : St B F own s) (hB : Bs w F) (hA : Rm 4 A)
    (hv : IntL F v ns) (h63 : ns.length ≤ 63)
    (h : ∀ F' s' v ov sv ow st tot t, Sub F F' → St B F' own s' → IsTupF F' v [ov, sv, .int tot t] → IntL F' ov ow → StepL F' sv st → PlanOk ow st → Q v s') :
    wpAny (model pg w) A (call (.ref 175) [v]) Q E s := by
  refine r_enterC (k := 3) (fd := fdPlan) S hB hA rfl rfl rfl rfl rfl (locs rfl) (by intro L p hp; rcases List.mem_cons.mp hp with rfl | hp; rfl; cases hp) fun L s₁ S₁ hA₁ => ?_
  obtain ⟨m₀, hm₀, S₁⟩ : ∃ m₀ : Str → Option Value, m₀ "script" = some v ∧ St B F (((callEnvC fdPlan L 175).locals, NsO m₀) :: (L + 1, CellO none) :: own) s₁ := ⟨_, rfl, S₁⟩
  refine wpAny_execs_cons (wpAny_Assign_Name (wpAny_BinOp (r_ListF (args_cons (r_int S₁ fun t₂ s₂ S₂ => args_nil ?_)))))
  refine ⟨_, _, _, S₂, by simp, fun F₃ a₃ s₃ hs₃ S₃ hl₃ => ?_⟩
  refine r_compS (X := IsI) (Y := IsI) (p := fun _ => true) (g := fun n : Int => n.fmod 1000) hA₁.hd isI_sub isI_sub rfl (by decide) rfl (by decide) rfl ?_
  refine r_upto (k := 7) (r_local S₃ hm₀ ⟨_, _, _, _, S₃, hv.sub hs₃, by omega, fun F₄ v₄ s₄ hs₄ S₄ hv₄ => ?_⟩)
  refine ⟨_, _, _, _, S₄, hv₄.lst, ?_, ?_, ?_⟩
  · exact Nat.le_trans (List.length_take_le ..) (by decide +kernel)
  · intro C D ys I PI F₅ mc s₅ v x hs₅ hx S₅
    obtain ⟨t, rfl⟩ := hx
    refine wpAny_tests_nil ⟨rfl, F₅, Sub.refl _, S₅, fun _ => ?_⟩
    exact wpAny_BinOp (r_local S₅ rfl (r_int S₅ fun t₆ s₆ S₆ => mod_int' (by decide) ⟨F₅, Sub.refl _, ⟨_, rfl⟩, S₆.tok _⟩))
  intro F₅ D ys s₅ hs₅ hys S₅
  rw [List.filter_eq_self.mpr (by simp)] at hys
  have hD := S₅.head
  refine r_add S₅ (isL_sub hl₃ ((hs₄.trans hs₅).trans S₅.fz)) (list_of hD) ?_ fun F₆ a₆ s₆ hs₆ S₆ hl₆ => ?_
  · rw [hys.length, List.length_map]
    refine Nat.le_trans (Nat.add_le_add_left (List.length_take_le ..) _) (by show 1 + 7 ≤ sizeLine; decide +kernel)
  refine r_storeC S₆.pop rfl (.tail .head) fun s₇ S₇ => ?_
  have hs6 : Sub F F₆ := ((hs₃.trans hs₄).trans hs₅).trans hs₆
  have hnum : IntL F₆ (.ref a₆) ([2] ++ (ns.take 7).map (fun n : Int => n.fmod 1000)) := ⟨_, _, rfl, hl₆, (IntsAre.cons 2 t₂ .nil).append (ints_of_all2 hys)⟩
  have hnn : ∀ n ∈ [2] ++ (ns.take 7).map (fun n : Int => n.fmod 1000), 0 ≤ n := by
    intro n hn
    rcases List.mem_append.mp hn with hn | hn
    · simp at hn; omega
    · obtain ⟨x, _, rfl⟩ := List.mem_map.mp hn
      rw [Int.fmod_eq_emod_of_nonneg _ (by decide)]
      exact Int.emod_nonneg _ (by decide)
  have hlen8 : ([2] ++ (ns.take 7).map (fun n : Int => n.fmod 1000)).length ≤ 8 := by simp; omega
  generalize [2] ++ (ns.take 7).map (fun n : Int => n.fmod 1000) = nums at hnum hnn hlen8
  -- size
  obtain ⟨lv, vs, rfl, hlv, hiv⟩ := hv
  refine wpAny_execs_cons (wpAny_Assign_Name (wpAny_BinOp (r_int S₇ fun t₈ s₈ S₈ => wpAny_BinOp (wpAny_BinOp (r_CallB S₈ (hB.sub hs6) rfl (by boot_fast) (by decide) (args_cons (r_local S₈ hm₀ (args_nil ?_))))))))
  refine r_len S₈ (isL_sub hlv (hs6.trans S₈.fz)) (by rw [hiv.length]; omega) fun t₉ s₉ S₉ => ?_
  refine r_int S₉ fun t₁₀ s₁₀ S₁₀ => floordiv_int (by decide) (r_int (S₁₀.tok _) fun t₁₁ s₁₁ S₁₁ => mod_int' (by decide) (add_int ?_)) (.inl (PyProof.noPylong_small (by decide)))
  obtain ⟨sz, hsz, hlo, hhi⟩ : ∃ sz : Nat, 3 + ((vs.length : Int).fdiv 2).fmod 4 = sz ∧ 3 ≤ sz ∧ sz ≤ 6 := by
    refine ⟨3 + vs.length / 2 % 4, ?_, by omega, by omega⟩
    rw [Int.fdiv_eq_ediv_of_nonneg _ (by decide), Int.fmod_eq_emod_of_nonneg _ (by decide)]
    omega
  rw [hsz]
  refine r_store ((S₁₁.tok _).tok _) fun s₁₂ S₁₂ => ?_
  obtain ⟨m₁, ts₀, hm₁, S₁₂⟩ : ∃ (m₁ : Str → Option Value) (ts : Tok), m₁ "size" = some (.int sz ts) ∧ St B F₆ (((callEnvC fdPlan L 175).locals, NsO m₁) :: (L + 1, CellO (some (.ref a₆))) :: own) s₁₂ := ⟨_, _, rfl, S₁₂⟩
  clear S₁ S₂ S₃ S₄ S₅ S₆ S₇ S₈ S₉ S₁₀ S₁₁ hm₀
  -- own
  refine wpAny_execs_cons (r_compA rfl rfl (by decide) rfl (by decide) rfl rfl ?_)
  refine r_CallT S₁₂ (hB.sub hs6) rfl (by boot_fast) (by decide) (args_cons (r_local S₁₂ hm₁ (args_nil ?_)))
  refine r_range1 S₁₂ fun F₁₃ r₁₃ t13 t13' s₁₃ hs₁₃ S₁₃ hr => ?_
  refine wpAny_pyIter_range (S₁₃.fz _ _ hr) (small_nat (by omega)) ?_
  rw [size_nat]
  have S₁₄ := S₁₃.alloc (P := RIterO (0 + (0 : Nat) * 1) (sz - (0 : Nat)) 1) (o := { cls := .type "range_iterator", data := .fields #[rawInt 0, rawInt sz, rawInt 1] }) rfl (by simp [RIterO])
  refine ⟨_, _, _, _, fun i => RIterO (0 + (i : Nat) * 1) (sz - (i : Nat)) 1, sz, fun i F₁ own₁ ys => own₁ = ((callEnvC fdPlan L 175).locals, NsO m₁) :: (L + 1, CellO (some (.ref a₆))) :: own ∧ Sub F₁₃ F₁ ∧ ∃ l, IntsAre ys l ∧ l.length = i, rfl, S₁₄, ⟨rfl, Sub.refl _, [], .nil, rfl⟩, self_range, turn_range hA₁.hd ?_ ?_⟩
  · intro C D i t F₁ own₁ ys s₁ mc hi hOb1 S₁
    obtain ⟨rfl, hs₁, l, hl, hln⟩ := hOb1
    refine wpAny_assign_Name (r_store (env := compEnvC _ _ C _) S₁ (fun s₂ S₂ => ?_) rfl rfl)
    refine wpAny_tests_nil ?_
    rw [if_pos rfl]
    have hB₂ := hB.sub ((hs6.trans hs₁₃).trans hs₁)
    refine wpAny_BinOp (wpAny_BinOp (wpAny_BinOp (wpAny_BinOp ?_)))
    refine r_CallB (env := compEnvC _ _ C _) S₂ hB₂ rfl (by boot_fast) (by decide) (args_cons (r_cell (env := compEnvC _ _ C _) (c := L + 1) S₂ (.tail _ (.tail _ (.tail _ (.tail _ (.head _))))) rfl (args_nil ?_)))
    refine r_sum hA₁.hd S₂ ((hnum.sub (hs₁₃.trans hs₁)).sub S₂.fz) fun t₃ s₃ S₃ => ?_
    refine wpAny_BinOp (r_local (env := compEnvC _ _ C _) S₃ rfl (r_int S₃ fun t₄ s₄ S₄ => add_int ?_))
    refine mul_int ?_ (.of_right (intBits_le_64 (by omega) (by omega)))
    refine wpAny_BinOp (r_int ((S₄.tok _).tok _) fun t₅ s₅ S₅ => r_local (env := compEnvC _ _ C _) S₅ rfl (mul_int ?_ (.of_right (intBits_le_64 (by omega) (by omega)))))
    refine add_int (r_int ((S₅.tok _).tok _) fun t₆ s₆ S₆ => mod_int' (by decide) (r_int (S₆.tok _) fun t₇ s₇ S₇ => sub_int ?_))
    refine ⟨?_, F₁, _, _, ⟨rfl, hs₁, l ++ [_], hl.append (.cons _ _ .nil), by simp [hln]⟩, S₇.tok _⟩
    rw [hl.length, hln]
    exact Nat.le_trans (m := 6) (by omega) (by decide +kernel)
  intro C D F₁ own₁ ys s₁ mc hOb2 S₁
  obtain ⟨rfl, hs₁, l, hl, hln⟩ := hOb2
  refine ⟨F₁, D, ys, mc, _, _, rfl, S₁, fun s₂ S₂ => ?_⟩
  obtain ⟨F₂, hs₂, S₂, oD, eD, hD⟩ := S₂.swap.freeze
  have hown : IntL F₂ (.ref D) l := ⟨D, ys, rfl, list_of ⟨oD, eD, hD⟩, hl⟩
  have hs2 : Sub F F₂ := ((hs6.trans hs₁₃).trans hs₁).trans hs₂
  have hnum2 := hnum.sub ((hs₁₃.trans hs₁).trans hs₂)
  -- steps
  refine wpAny_execs_cons (wpAny_Assign_Name (r_ListO (args_nil ⟨_, _, _, S₂, by simp, fun W s₃ S₃ => ?_⟩)))
  refine r_store S₃.swap fun s₄ S₄ => ?_
  obtain ⟨ln, vn, hln', hlnum, hinum⟩ := hnum2
  cases hln'
  refine wpAny_execs_cons (wpAny_For (r_CallT S₄ (hB.sub hs2) rfl (by boot_fast) (by decide) (args_cons (r_CallB S₄ (hB.sub hs2) rfl (by boot_fast) (by decide) (args_cons (r_cell (c := L + 1) S₄ (.tail _ (.tail _ (.head _))) rfl (args_nil ?_)))))))
  refine r_len S₄ (isL_sub hlnum S₄.fz) (by rw [hinum.length]; omega) fun t₅ s₅ S₅ => args_nil ?_
  refine r_range1 S₅ fun F₆' r₆ t6 t6' s₆' hs₆' S₆' hr₆ => ?_
  refine r_loopR (N := vn.length) hA₁.hd
    (fun i F₁ m₁ own₁ => ∃ xs st ts, own₁ = (W, ListO xs) :: (L + 1, CellO (some (.ref a₆))) :: own ∧ Sub F₆' F₁ ∧ m₁ "size" = some (.int sz ts) ∧ m₁ "own" = some (.ref D) ∧ m₁ "steps" = some (.ref W) ∧
      All2 (StepP F₁) xs st ∧ st.length = i ∧ (∀ x ∈ st, x.a < x.b) ∧ (∀ x ∈ st, x.b < sz) ∧ (∀ x ∈ st, x.lo ≤ x.hi))
    S₆' hr₆ (small_nat (by rw [hinum.length]; omega)) (size_nat _) ⟨[], [], _, rfl, Sub.refl _, hm₁, rfl, rfl, .nil, rfl, by simp, by simp, by simp⟩ ?_ ?_
  · intro it i t F₁ m₁ own₁ s₁ hi hOb3 S₁
    refine gen_turn fun Q₁ E₁ E₁' hQ₁ => ?_
    obtain ⟨xs, st, ts, rfl, hs₁, hmsz, hmo, hms, hxs, hstl, v1, v2, v3⟩ := hOb3
    obtain ⟨n, hn⟩ : ∃ n, nums[i]? = some n := ⟨_, List.getElem?_eq_getElem (by rw [← hinum.length]; exact hi)⟩
    have hn0 : 0 ≤ n := hnn n (List.mem_of_getElem? hn)
    have hi8 : i < 8 := by rw [hinum.length] at hi; omega
    rw [show (0 : Int) + (i : Int) * 1 = i by omega]
    refine wpAny_assign_Name (r_store S₁ fun s₂ S₂ => ?_)
    refine wpAny_execs_cons (wpAny_Assign_Name (wpAny_BinOp (Subscript_ (r_cell (c := L + 1) S₂ (.tail _ (.tail _ (.tail _ (.head _)))) rfl (r_local S₂ rfl ?_)))))
    refine tail_int (ns := nums) ⟨a₆, vn, rfl, isL_sub hlnum ((hs₆'.trans hs₁).trans S₂.fz), hinum⟩ (by omega) (by omega) (by simpa using hn) fun t₃ => ?_
    refine wpAny_BinOp (r_int S₂ fun t₄ s₄ S₄ => r_local S₄ rfl (mul_int (add_int ?_) (.of_right (intBits_le_64 (by omega) (by omega)))))
    refine r_store ((S₄.tok _).tok _) fun s₅ S₅ => ?_
    refine wpAny_execs_cons (wpAny_Assign_Name (wpAny_BinOp (r_int S₅ fun t₆ s₆ S₆ => wpAny_BinOp (r_local S₆ rfl (wpAny_BinOp (r_local S₆ hmsz (r_int S₆ fun t₇ s₇ S₇ => sub_int (mod_int' (by omega) (add_int ?_)))))))))
    refine r_store (((S₇.tok _).tok _).tok _) fun s₈ S₈ => ?_
    refine wpAny_execs_cons (wpAny_Assign_Name (wpAny_BinOp (wpAny_BinOp (wpAny_BinOp (wpAny_BinOp (r_int S₈ fun t₉ s₉ S₉ => r_local S₉ rfl (mul_int ?_ (.of_left (intBits_le_64 (by decide) (by decide))))))))))
    refine r_local (S₉.tok _) rfl (add_int (r_int ((S₉.tok _).tok _) fun t₁₀ s₁₀ S₁₀ => mod_int' (by decide) (r_int (S₁₀.tok _) fun t₁₁ s₁₁ S₁₁ => sub_int ?_)))
    refine r_store (S₁₁.tok _) fun s₁₂ S₁₂ => ?_
    have e1 : (n + 3 * (i : Int)).fmod (sz - 1) = (n + 3 * (i : Int)) % (sz - 1) := Int.fmod_eq_emod_of_nonneg _ (by omega)
    have e2 : (n + 3 * (i : Int)).fdiv (sz - 1) = (n + 3 * (i : Int)) / (sz - 1) := Int.fdiv_eq_ediv_of_nonneg _ (by omega)
    have b1 : 0 ≤ (n + 3 * (i : Int)) % (sz - 1) := Int.emod_nonneg _ (by omega)
    have b2 : (n + 3 * (i : Int)) % (sz - 1) < sz - 1 := Int.emod_lt_of_pos _ (by omega)
    obtain ⟨pl, hpl, hpl1, hpl2⟩ : ∃ pl : Nat, 1 + (n + 3 * (i : Int)).fmod (sz - 1) = pl ∧ 1 ≤ pl ∧ pl < sz := ⟨(1 + (n + 3 * (i : Int)) % (sz - 1)).toNat, by rw [e1]; omega, by omega, by omega⟩
    obtain ⟨ah, hah, hah2⟩ : ∃ ah : Nat, ((n + 3 * (i : Int)).fdiv (sz - 1)).fmod pl = ah ∧ ah < pl := by
      rw [Int.fmod_eq_emod_of_nonneg _ (by omega)]
      have c1 := Int.emod_nonneg ((n + 3 * (i : Int)).fdiv (sz - 1)) (b := (pl : Int)) (by omega)
      have c2 := Int.emod_lt_of_pos ((n + 3 * (i : Int)).fdiv (sz - 1)) (b := (pl : Int)) (by omega)
      exact ⟨(((n + 3 * (i : Int)).fdiv (sz - 1)) % pl).toNat, by omega, by omega⟩
    have hg : 0 ≤ (n + 3 * (i : Int) + i).fmod 5 := by rw [Int.fmod_eq_emod_of_nonneg _ (by decide)]; exact Int.emod_nonneg _ (by decide)
    generalize hlow : (5 * (n + 3 * (i : Int)) + i).fmod 17 - 8 = low at *
    generalize n + 3 * (i : Int) = y at *
    rw [hpl] at S₁₂
    refine wpAny_execs_cons (r_append (r_local S₁₂ hms ⟨W, xs, rfl, S₁₂.mem (.tail _ (.tail _ (.head _))), ?_⟩))
    refine r_ListF (args_cons (wpAny_BinOp (wpAny_BinOp (r_local S₁₂ rfl (wpAny_BinOp (r_local S₁₂ hmsz (r_int S₁₂ fun t₁₃ s₁₃ S₁₃ => sub_int (floordiv_int (by omega) ?_ (.inl (PyProof.noPylong_small (by omega)))))))))))
    refine r_local ((S₁₃.tok _).tok _) rfl (mod_int' (by omega) ?_)
    rw [hah]
    refine args_cons (r_local (((S₁₃.tok _).tok _).tok _) rfl (args_cons (r_local (((S₁₃.tok _).tok _).tok _) rfl (args_cons (wpAny_BinOp (r_local (((S₁₃.tok _).tok _).tok _) rfl (wpAny_BinOp (wpAny_BinOp (r_local (((S₁₃.tok _).tok _).tok _) rfl (r_local (((S₁₃.tok _).tok _).tok _) rfl (add_int ?_)))))))))))
    refine r_int ((((S₁₃.tok _).tok _).tok _).tok _) fun t₁₄ s₁₄ S₁₄ => mod_int' (by decide) (add_int (args_nil ?_))
    refine ⟨_, _, _, (S₁₄.tok _).tok _, by simp, fun F₁₅ a₁₅ s₁₅ hs₁₅ S₁₅ hl₁₅ => ?_⟩
    refine ⟨_, _, _, _, xs, S₁₅, .tail (.tail .head), ?_, fun s₁₆ S₁₆ => wpAny_execs_nil (hQ₁ _ _ ⟨F₁₅, _, _, ?_, S₁₆⟩)⟩
    · rw [hxs.length, hstl]
      exact Nat.le_trans (m := 8) (by omega) (by decide +kernel)
    · refine ⟨_, st ++ [⟨ah, pl, low, low + (y + i).fmod 5⟩], ts, rfl, hs₁.trans hs₁₅, hmsz, hmo, hms, ?_, by simp [hstl], ?_, ?_, ?_⟩
      · exact (hxs.mono fun _ _ q => q.sub hs₁₅).snoc ⟨a₁₅, _, rfl, hl₁₅, .cons _ _ (.cons _ _ (.cons _ _ (.cons _ _ .nil)))⟩
      · intro x hx
        rcases List.mem_append.mp hx with hx | hx
        · exact v1 x hx
        · simp at hx; subst hx; exact hah2
      · intro x hx
        rcases List.mem_append.mp hx with hx | hx
        · exact v2 x hx
        · simp at hx; subst hx; exact hpl2
      · intro x hx
        rcases List.mem_append.mp hx with hx | hx
        · exact v3 x hx
        · simp at hx; subst hx; show low ≤ low + _; omega
  · intro F₁ m₁ own₁ s₁ hOb4 S₁
    obtain ⟨xs, st, ts, rfl, hs₁, hmsz, hmo, hms, hxs, hstl, v1, v2, v3⟩ := hOb4
    refine wpAny_execs_cons (wpAny_Return_some (wpAny_Tuple (args_cons (r_local S₁ hmo (args_cons (r_local S₁ hms (args_cons (r_CallB S₁ (hB.sub ((hs2.trans hs₆').trans hs₁)) rfl (by boot_fast) (by decide) (args_cons (r_cell (c := L + 1) S₁ (.tail _ (.tail _ (.head _))) rfl (args_nil ?_)))))))))))
    refine r_sum hA₁.hd S₁ ⟨a₆, vn, rfl, isL_sub hlnum ((hs₆'.trans hs₁).trans S₁.fz), hinum⟩ fun t₂ s₂ S₂ => args_nil ⟨by show 3 ≤ sizeLine; decide +kernel, ?_⟩
    obtain ⟨F₃, hs₃, S₃, oW, eW, hW⟩ := S₂.pop.freeze
    obtain ⟨F₄, hs₄, S₄, e₄⟩ := S₃.pop.allocF (o := { cls := .type "tuple", data := .seq [.ref D, .ref W, .int nums.sum t₂].toArray }) rfl
    refine h F₄ _ _ _ _ l st _ _ ((((hs2.trans hs₆').trans hs₁).trans hs₃).trans hs₄) S₄ ⟨_, rfl, e₄⟩ (hown.sub (((hs₆'.trans hs₁).trans hs₃).trans hs₄))
      ⟨W, xs, rfl, isL_sub (list_of ⟨oW, eW, hW⟩) hs₄, hxs.mono fun _ _ q => q.sub (hs₃.trans hs₄)⟩ ⟨by omega, by omega, by rw [hstl, hinum.length]; exact hlen8, v1, fun x hx => hln ▸ v2 x hx, v3⟩
end
end
end Mine
end
section
open PySem PySem.W PyProof.Rows PySem.Calls
set_option Elab.async false
set_option maxRecDepth 100000
set_option maxHeartbeats 4000000
namespace Mine
noncomputable section
noncomputable def TabO (ps : Array Value) (o : Obj) : Prop := o = tabObj ps
noncomputable def TabOk (F : Heap) (pos : Pos) (qual : Str) (ps : Array Value) : Prop := ps = #[] ∨ ∃ c', ps = #[rawInt pos.line, rawInt pos.col, .ref c'] ∧ F.CodeRec (.ref c') qual
theorem TabOk.sub {F F' : Heap} {pos : Pos} {qual : Str} {ps : Array Value} (h : TabOk F pos qual ps) (k : Sub F F') : TabOk F' pos qual ps := by
  rcases h with h | ⟨c', e, r⟩
  · exact .inl h
  · exact .inr ⟨c', e, r.keeps k⟩
noncomputable abbrev lenv (scope : Scope) (L : Addr) (clos : List (Str × Addr)) (qual : Str) (f c' : Addr) : Env :=
  { scope := scope, locals := L, globals := mainGlobals, cells := clos, qual := qual ++ ".<locals>.", func := some f, code := .ref c', frame := some L, builtins := builtinsNs }
section
variable {B : Shared} {F F' : Heap} {own own' : Own} {s : Shared} {w : World} {A : Around} {E : Value → Shared → Prop} {env : Env} {m : Str → Option Value}

theorem r_lambda {params : Arguments} {body : Expr} {scope : Scope} {pos : Pos} {c P : Addr} {ps : Array Value} {clos : List (Str × Addr)} {ownf : Array Value → Own} {Q : Value → Shared → Prop}
    (S : St B F own s) (hB : Bs w F) (u : ∀ ps', Upd own P (TabO ps) (TabO ps') (ownf ps')) (C : CodeHd F c P) (hcode : env.code = .ref c) (hok : TabOk F pos (env.qual ++ "<lambda>") ps)
    (hcl : closureFor scope env = pure clos) (hg : env.globals = mainGlobals) (h3 : P ≠ 3) (h4 : P ≠ 4) (hdef : defaultsOf params env = ([], []))
    (h : ∀ F' f c' ps' pm ctv s', Sub F F' → St B F' (ownf ps') s' → TabOk F' pos (env.qual ++ "<lambda>") ps' → F'.get? f = some (kla_obj "<lambda>" (env.qual ++ "<lambda>") params body scope clos pm c' ctv) →
      F'.CodeRec (.ref c') (env.qual ++ "<lambda>") → Q (.ref f) s') :
    wpAny (model pg w) A (eval (.Lambda params body scope pos) env) Q E s := by
  refine kla_eval hdef ?_
  obtain ⟨_, _, mg, mb, T⟩ := hB.T
  have hP : s.heap.get? P = some (tabObj ps) := by obtain ⟨o, e, rfl⟩ := S.at (u #[]); exact e
  obtain ⟨ob, e4, r4⟩ := hB.bm
  have hbm : s.heap.BuiltinsAt mg P := ⟨4, ob, mg_of hB.K T.g rfl, by decide, by decide, Ne.symm h4, S.fz _ _ e4, r4⟩
  rcases hok with rfl | ⟨c', rfl, hrec⟩
  · refine kla_makeFunction (ps := #[]) hcl hg (T.g.keeps S.fz) hcode (C.keeps S.fz) hP trivial rfl (fun e => h3 e.symm) hbm fun c' ctv h' tk hx hge hlt hrec htab => ?_
    obtain ⟨r, p1, p2⟩ := (u #[rawInt pos.line, rawInt pos.col, .ref c']).perm
    have S₁ := ((S.perm p1.symm).updExtK (P' := TabO #[rawInt pos.line, rawInt pos.col, .ref c']) hx htab (by simp [TabO]) tk).perm p2
    obtain ⟨F₁, hs₁, S₂, hF⟩ := S₁.rebase
    obtain ⟨F₂, hs₂, S₃, e₃⟩ := S₂.allocF (o := kla_obj "<lambda>" (env.qual ++ "<lambda>") params body scope clos ((mg "__name__").getD .none) c' ctv) rfl
    have hrec₂ : F₂.CodeRec (.ref c') (env.qual ++ "<lambda>") := by
      obtain ⟨a, oc, vs, tq, e, hoc, r⟩ := hrec
      cases e
      refine ⟨c', oc, vs, tq, rfl, hs₂ _ _ (hF _ _ hoc ?_), r⟩
      intro hm
      have hp : (ownf #[rawInt pos.line, rawInt pos.col, .ref c']).map (·.1) = own.map (·.1) := upd_keys (u _)
      rw [hp] at hm
      exact S.notin hge hm
    exact h F₂ _ c' _ _ ctv _ (hs₁.trans hs₂) S₃ (.inr ⟨c', rfl, hrec₂⟩) e₃ hrec₂
  · refine kla_makeFunctionHit (cv := .ref c') hcl hg (T.g.keeps S.fz) hcode (C.keeps S.fz) hP trivial (by simp [codeAmong, rawInt]) hbm fun ctv h' tk hk hge => ?_
    have S₁ := (S.keeps hk tk).perm (own' := ownf #[rawInt pos.line, rawInt pos.col, .ref c']) (upd_same (u _))
    obtain ⟨F₂, hs₂, S₃, e₃⟩ := S₁.allocF (o := kla_obj "<lambda>" (env.qual ++ "<lambda>") params body scope clos ((mg "__name__").getD .none) c' ctv) rfl
    exact h F₂ _ c' _ _ ctv _ hs₂ S₃ (.inr ⟨c', rfl, hrec.keeps hs₂⟩) e₃ (hrec.keeps hs₂)

/-- a lambda is entered -/
theorem r_callL {k : Nat} {f c' : Addr} {name qual : Str} {params : Arguments} {body : Expr} {scope : Scope} {clos : List (Str × Addr)} {pm ctv : Value} {args : List Value} {binds : List (Str × Value)} {Q : Value → Shared → Prop}
    (S : St B F own s) (hB : Bs w F) (hA : Rm (k + 1) A) (ho : F.get? f = some (kla_obj name qual params body scope clos pm c' ctv)) (hcd : F.CodeRec (.ref c') qual)
    (hbind : bindArgs (kla_fn name qual params body scope clos pm (.ref c') ctv) ⟨args, []⟩ = pure binds)
    (hcell : ∀ x ∈ scope.names, x.2 ≠ .cell) (hloc : ∀ x ∈ binds, scope.names.lookup x.1 = some .local)
    (h : ∀ L s', St B F ((L, NsO (fun x => binds.reverse.lookup x)) :: own) s' → Rm k (A.deeper (lenv scope L clos qual f c')) →
      wpAny (model pg w) (A.deeper (lenv scope L clos qual f c')) (eval body (lenv scope L clos qual f c')) Q (fun _ _ => False) s')
    (hco : scope.isCoroutine = false := by rfl) (hgen : scope.isGenerator = false := by rfl) (hk : scope.kind = .function := by rfl) :
    wpAny (model pg w) A (call (.ref f) args) Q E s := by
  refine wpAny_call ?_
  refine kla_callFunE (fd := kla_fn name qual params body scope clos pm (.ref c') ctv) hA.depth (S.fz _ _ ho) rfl hco hgen rfl (hcd.keeps S.fz) ?_
  rw [hbind]
  refine wpAny_pure (wpAny_newFunctionEnv hcell hloc (fun h₁ hns hsb => ⟨(bs_nolimit (hB.sub S.fz)).fresh _ hsb, ?_⟩) hk)
  refine kla_codeExpr ?_
  have S₂ : St B F ((s.heap.objs.size, NsO (fun x => binds.reverse.lookup x)) :: own) { s with heap := h₁, toks := s.toks + binds.length } := by
    obtain ⟨o, e, q⟩ := of_ns hns
    exact (S.alloc (P := fun _ => True) (o := { cls := .type "frame", data := .dict #[] }) rfl trivial).upd (h' := h₁) hsb e q _
  exact wpAny_mono (h _ _ S₂ (hA.deeper _)) (fun _ _ x => x) (fun _ _ x => x.elim)

/-! ### a bridge to the library's ledgers: the ledger of all objects -/
noncomputable def noHeap : Heap := ⟨#[], {}⟩
noncomputable def allObjs (h : Heap) (L : Addr) : List (Addr × Obj) := (List.range h.objs.size).filterMap fun b => if b = L then none else (h.get? b).map fun o => (b, o)
theorem mem_allObjs {h : Heap} {L b : Addr} {o : Obj} : (b, o) ∈ allObjs h L ↔ h.get? b = some o ∧ b ≠ L := by
  unfold allObjs
  rw [List.mem_filterMap]
  constructor
  · rintro ⟨a, _, e⟩
    split at e
    · cases e
    · rename_i hne
      cases q : h.get? a with
      | none => rw [q] at e; cases e
      | some o' => rw [q] at e; cases e; exact ⟨q, hne⟩
  · rintro ⟨e, hne⟩
    exact ⟨b, List.mem_range.mpr (Heap.lt_size e), by rw [if_neg hne, e]; rfl⟩
theorem noHeap_get (b : Addr) : noHeap.get? b = none := rfl
theorem fr_no {h : Heap} {L : Addr} (hn : h.Ns L m) : Fr noHeap L h m := ⟨hn, fun b o e => (by rw [noHeap_get] at e; cases e), Nat.zero_le _⟩
theorem news_no {h : Heap} {L : Addr} : News noHeap L h (allObjs h L) := fun p hp => by
  have := mem_allObjs.mp (show (p.1, p.2) ∈ allObjs h L from hp)
  exact ⟨this.1, this.2, noHeap_get _⟩
theorem st_back {L : Addr} {h' : Heap} {news : List (Addr × Obj)} {tk : Nat} (S : St B F ((L, NsO m) :: own) s) (Fr' : Fr noHeap L h' m) (N' : News noHeap L h' news) (hsub : ∀ p ∈ allObjs s.heap L, p ∈ news) :
    St B F ((L, NsO m) :: own) { s with heap := h', toks := tk } := by
  obtain ⟨o, e, q⟩ := of_ns Fr'.ns
  exact S.updExtK (fun b o' hb e' => (N' _ (hsub _ (mem_allObjs.mpr ⟨e', hb⟩))).1) e q tk

/-- sorted(xs, key=f), the keys ints -/
theorem r_sortedK {L l : Addr} {vs : List Value} {kz : List Int} {f : Addr} {Q : Value → Shared → Prop} (S : St B F ((L, NsO m) :: own) s) (hl : s.heap.IsList l vs.toArray) (hlen : kz.length = vs.length) (h64 : vs.length < 64)
    (turn : ∀ (i : Nat) (v : Value) (k : Int) (B₁ : Shared) (F₁ : Heap) (s₁ : Shared), vs[i]? = some v → kz[i]? = some k → Sub F F₁ → St B₁ F₁ [(L, NsO m)] s₁ → ∀ Q' : Value → Shared → Prop,
      (∀ F₂ t s₂, Sub F₁ F₂ → St B₁ F₂ [(L, NsO m)] s₂ → Q' (.int k t) s₂) → wpAny (model pg w) A.in1.in1 (call (.ref f) [v]) Q' (fun _ _ => False) s₁)
    (h : ∀ F' D out s', Sub F F' → St B F' ((L, NsO m) :: own) s' → F'.IsList D out.toArray → KskOut false kz vs out → Q (.ref D) s') :
    wpAny (model pg w) A (call (.builtin "sorted") [.ref l] [(Str.ofString "key", .ref f)]) Q E s := by
  have hFnew : ∀ b o, F.get? b = some o → (b, o) ∈ allObjs s.heap L := fun b o e => mem_allObjs.mpr ⟨S.fz _ _ e, by rintro rfl; rw [(S.ow _ (.head _)).1] at e; cases e⟩
  refine ksk_sorted (b := false) (kz := kz) (f := .ref f) (fr_no (ns_of S.head)) (news_no (h := s.heap)) hl hlen h64 (ksk_s1 _ _) (fun x => ksk_l1 _ _) (fun x => ksk_t1 f x) ?_ ?_
  · intro i v k hv hk h₁ tk ow Fr₁ N₁
    have S₁ : St { s with heap := h₁, toks := tk } (hide h₁ [L]) [(L, NsO m)] { s with heap := h₁, toks := tk } := by
      refine ⟨rfl, rfl, rfl, fun b o e => ?_, fun p hp => ?_, by simp⟩
      · by_cases hb : b ∈ [L]
        · rw [get?_hide_mem hb] at e; cases e
        · rw [get?_hide hb] at e; exact e
      · cases List.mem_singleton.mp hp
        exact ⟨get?_hide_mem (by simp), of_ns Fr₁.ns⟩
    have hsub : Sub F (hide h₁ [L]) := fun b o e => by
      have hm := hFnew b o e
      rw [get?_hide (by intro hb; exact (mem_allObjs.mp hm).2 (List.mem_singleton.mp hb))]
      exact (N₁ _ (List.mem_append_left _ hm)).1
    refine turn i v k _ _ _ hv hk hsub S₁ _ fun F₂ t s₂ hs₂ S₂ => ?_
    refine ⟨s₂.heap, s₂.toks, t, ?_, rfl, fr_no (ns_of S₂.head), fun p hp => ?_⟩
    · obtain ⟨h2, g2, d2, t2, o2⟩ := s₂
      have e1 := S₂.gens; have e2 := S₂.os; have e3 := S₂.dr
      simp only at e1 e2 e3
      subst e1 e2 e3
      rfl
    · have hp1 := N₁ p hp
      exact ⟨S₂.fz _ _ (hs₂ _ _ (by rw [get?_hide (by intro hb; exact hp1.2.1 (List.mem_singleton.mp hb))]; exact hp1.1)), hp1.2.1, noHeap_get _⟩
  · intro D h' tk out c Fr' N' hlt ho
    have S₁ := st_back (tk := tk) S Fr' N' fun p hp => .tail _ hp
    have hD := (N' _ (.head _))
    obtain ⟨F₁, hs₁, S₂, hF⟩ := S₁.rebase
    refine h F₁ D out.toList _ hs₁ S₂ ⟨_, hF _ _ hD.1 ?_, rfl, c, by simp⟩ ho
    intro hm
    rcases List.mem_cons.mp hm with e | hm
    · exact hD.2.1 e
    · obtain ⟨p, hp, e⟩ := List.mem_map.mp hm
      obtain ⟨_, o, eo, _⟩ := S.ow p (.tail _ hp)
      have hne : p.1 ≠ L := fun e' => (List.nodup_cons.mp S.nd).1 (List.mem_map.mpr ⟨p, hp, e'⟩)
      have := hlt _ (mem_allObjs.mpr ⟨eo, hne⟩)
      have e' : p.1 = D := e
      rw [e'] at this
      exact Nat.lt_irrefl _ this
end
end
end Mine
end
section
open PySem PySem.W PyProof.Rows PySem.Calls
set_option Elab.async false
set_option maxRecDepth 100000
set_option maxHeartbeats 4000000
namespace Mine
noncomputable section
section
variable {B : Shared} {F F' : Heap} {own own' : Own} {s : Shared} {w : World} {A : Around} {E : Value → Shared → Prop} {env : Env} {m : Str → Option Value}

theorem St.updMany {l l' : Own} {h' : Heap} (S : St B F (l ++ own) s) (hk : l'.map (·.1) = l.map (·.1)) (hs : ∀ c o, c ∉ l.map (·.1) → s.heap.get? c = some o → h'.get? c = some o)
    (hn : ∀ p ∈ l', ∃ o, h'.get? p.1 = some o ∧ p.2 o) (t : Nat) : St B F (l' ++ own) { s with heap := h', toks := t } := by
  have hnd := S.nd
  rw [List.map_append] at hnd
  have hF : ∀ a ∈ l.map (·.1), F.get? a = none := fun a ha => by
    obtain ⟨p, hp, rfl⟩ := List.mem_map.mp ha
    exact (S.ow p (List.mem_append_left _ hp)).1
  refine ⟨S.gens, S.os, S.dr, fun b o e => hs b o (fun hm => by rw [hF b hm] at e; cases e) (S.fz _ _ e), fun p hp => ?_, by rw [List.map_append, hk]; exact hnd⟩
  rcases List.mem_append.mp hp with hp | hp
  · exact ⟨hF _ (hk ▸ List.mem_map_of_mem hp), hn p hp⟩
  · obtain ⟨x, o, e, q⟩ := S.ow p (List.mem_append_right _ hp)
    refine ⟨x, o, hs _ _ (fun hm => ?_) e, q⟩
    exact (List.nodup_append.mp hnd).2.2 _ hm _ (List.mem_map_of_mem hp) rfl

noncomputable def ZipO (TI TO : Addr) (f0 : Value) (o : Obj) : Prop := o = { cls := .type "zip", dict := none, data := .fields #[f0, .bool false, .bool false, .ref TI, .ref TO], slots := #[] }
noncomputable def PairO (a b : Value) (o : Obj) : Prop := o = { cls := .type "tuple", data := .seq #[a, b] }

/-- [.. for a, b in zip(xs, ys)], the two lists standing: one turn -/
theorem turn_zip {elt : Expr} {elts : List Expr} {x1 : Nat} {pt : Pos} {ifs : List Expr} {scope : Scope} {cl : List (Str × Addr)} {z TI TO i1 i2 l1 l2 : Addr} {vs ws : List Value} {J : Nat → Heap → List Value → Prop} {RR : Value → Addr → Shared → Prop} (hh : A.handled = none)
    (hlen : vs.length = ws.length) (hTI : F.get? TI = some { cls := .type "tuple", data := .seq #[.ref i1, .ref i2] })
    (hL : ∀ F₁ own₁ s₁, St B F₁ (own₁ ++ own) s₁ → Sub F F₁ → s₁.heap.IsList l1 vs.toArray ∧ s₁.heap.IsList l2 ws.toArray)
    (hl : ∀ a ∈ [z, TO, i1, i2], l1 ≠ a ∧ l2 ≠ a)
    (item : ∀ C D i a b F₁ (own₁ : Own) ys s₁ mc, vs[i]? = some a → ws[i]? = some b → Sub F F₁ → J i F₁ ys → St B F₁ ((C, NsO mc) :: (D, ListO ys) :: (own₁ ++ own)) s₁ →
      wpAny (model pg w) A (assignInOrder ((assignEach elts (compEnvC scope cl C env)).map (·.2)) [a, b]) (fun _ s₄ =>
            wpAny (model pg w) A (forIn ifs true fun c r => if r = true then do let ok ← isTrue c (compEnvC scope cl C env) (eval c (compEnvC scope cl C env)); pure (ForInStep.yield ok) else pure (ForInStep.yield r)) (fun ok s₅ =>
              ok = true ∧ wpAny (model pg w) A (eval elt (compEnvC scope cl C env)) (fun y s₆ => ys.length ≤ sizeLine ∧
                ∃ F₂ mc', Sub F₁ F₂ ∧ J (i + 1) F₂ (ys ++ [y]) ∧ St B F₂ ((C, NsO mc') :: (D, ListO ys) :: (own₁ ++ own)) s₆) (fun _ _ => False) s₅)
            (fun _ _ => False) s₄) (fun _ _ => False) s₁)
    (hea : ∀ C, (assignEach elts (compEnvC scope cl C env)).length = 2) (hst : ∀ C, (assignEach elts (compEnvC scope cl C env)).findIdx? (·.1) = none)
    (fin : ∀ C D F₁ ys s₁ mc, Sub F F₁ → J vs.length F₁ ys → St B F₁ ((C, NsO mc) :: (D, ListO ys) :: own) s₁ → RR (.ref D) C s₁) :
    CompTurn w A env B elt (.Tuple elts x1 pt) ifs scope cl z (fun _ => ZipO TI TO .none) vs.length
      (fun i F₁ own₁ ys => ∃ a b, own₁ = (TO, PairO a b) :: (i1, IterO l1 i) :: (i2, IterO l2 i) :: own ∧ Sub F F₁ ∧ J i F₁ ys) RR := by
  rintro C D i F₁ own₁ ys s₁ mc hi ⟨a, b, rfl, hsub, hJ⟩ S
  have Sp : St B F₁ ([(z, ZipO TI TO .none), (TO, PairO a b), (i1, IterO l1 i), (i2, IterO l2 i)] ++ ((C, NsO mc) :: (D, ListO ys) :: own)) s₁ := by
    refine S.perm ?_
    have p1 : ∀ (x y a b c d : Addr × (Obj → Prop)) (l : Own), ([a, b, c, d] ++ (x :: y :: l)).Perm (x :: y :: a :: b :: c :: d :: l) := fun x y a b c d l => by
      have := List.perm_append_comm (l₁ := [a, b, c, d]) (l₂ := [x, y])
      exact this.append_right l
    exact p1 _ _ _ _ _ _ _
  have hnd := Sp.nd
  have hF4 : ∀ c ∈ [z, TO, i1, i2], F₁.get? c = none := fun c hc => by
    have : ∀ p ∈ [(z, ZipO TI TO .none), (TO, PairO a b), (i1, IterO l1 i), (i2, IterO l2 i)], F₁.get? p.1 = none := fun p hp => (Sp.ow p (List.mem_append_left _ hp)).1
    simp only [List.mem_cons, List.not_mem_nil, or_false] at hc
    rcases hc with rfl | rfl | rfl | rfl
    · exact this _ (.head _)
    · exact this _ (.tail _ (.head _))
    · exact this _ (.tail _ (.tail _ (.head _)))
    · exact this _ (.tail _ (.tail _ (.tail _ (.head _))))
  have hTI₁ := hsub _ _ hTI
  have hTIne : ∀ c ∈ [z, TO, i1, i2], TI ≠ c := fun c hc e => by have := hF4 c hc; rw [← e, hTI₁] at this; cases this
  have nd4 : [z, TO, i1, i2].Nodup := by
    rw [List.map_append] at hnd
    exact (List.nodup_append.mp hnd).1
  simp only [List.nodup_cons, List.mem_cons, List.not_mem_nil, or_false, not_or, not_false_eq_true, List.nodup_nil, and_true] at nd4
  obtain ⟨⟨n1, n2, n3⟩, ⟨n4, n5⟩, n6⟩ := nd4
  have D4 : ZipApart z TI TO i1 i2 l1 l2 := ⟨hTIne z (by simp), Ne.symm n1, Ne.symm n2, Ne.symm n3, hTIne TO (by simp), hTIne i1 (by simp), hTIne i2 (by simp), n4, n5, n6,
    (hl z (by simp)).1, (hl TO (by simp)).1, (hl i1 (by simp)).1, (hl i2 (by simp)).1, (hl z (by simp)).2, (hl TO (by simp)).2, (hl i1 (by simp)).2, (hl i2 (by simp)).2⟩
  have hz : IsZip s₁.heap z TI TO .none := by obtain ⟨o, e, rfl⟩ := Sp.mem (a := z) (P := ZipO TI TO .none) (.head _); exact e
  have hTO : IsPair s₁.heap TO a b := by obtain ⟨o, e, rfl⟩ := Sp.mem (a := TO) (P := PairO a b) (.tail _ (.head _)); exact e
  have h1 := iter_of (Sp.mem (a := i1) (P := IterO l1 i) (.tail _ (.tail _ (.head _))))
  have h2 := iter_of (Sp.mem (a := i2) (P := IterO l2 i) (.tail _ (.tail _ (.tail _ (.head _)))))
  obtain ⟨hl1, hl2⟩ := hL F₁ [(C, NsO mc), (D, ListO ys), (z, ZipO TI TO .none), (TO, PairO a b), (i1, IterO l1 i), (i2, IterO l2 i)] s₁ S hsub
  by_cases hlt : i < vs.length
  · have hv : vs[i]? = some vs[i] := List.getElem?_eq_getElem hlt
    have hw : ws[i]? = some (ws[i]'(hlen ▸ hlt)) := List.getElem?_eq_getElem (hlen ▸ hlt)
    refine wpAny_pyNext_zip_item D4 hz (S.fz _ _ hTI₁) hTO h1 h2 hl1 hl2 (x := vs[i]) (y := ws[i]'(hlen ▸ hlt)) (by simpa using hv) (by simpa using hw) fun h' q1 q2 q3 q4 q5 q6 q7 => ?_
    refine wpAny_letOwnedTupleGo_zip q1 fun h'' r1 r2 => ?_
    have hTsz : s₁.heap.objs.size ≠ z := Nat.ne_of_gt (Heap.lt_size hz)
    have hS : St B F₁ ([(z, ZipO TI TO .none), (TO, PairO vs[i] (ws[i]'(hlen ▸ hlt))), (i1, IterO l1 (i + 1)), (i2, IterO l2 (i + 1))] ++ ((C, NsO mc) :: (D, ListO ys) :: own)) { s₁ with heap := h'', toks := s₁.toks } := by
      refine Sp.updMany (l' := [(z, ZipO TI TO .none), (TO, PairO vs[i] (ws[i]'(hlen ▸ hlt))), (i1, IterO l1 (i + 1)), (i2, IterO l2 (i + 1))]) rfl (fun c o hc e => ?_) (fun p hp => ?_) _
      · have hc' : c ≠ z ∧ c ≠ TO ∧ c ≠ i1 ∧ c ≠ i2 := by simpa using hc
        exact r2.extBut c o hc'.1 (q7 c o hc'.1 hc'.2.1 hc'.2.2.1 hc'.2.2.2 e)
      · simp only [List.mem_cons, List.not_mem_nil, or_false] at hp
        rcases hp with rfl | rfl | rfl | rfl
        · exact ⟨_, r1, rfl⟩
        · exact ⟨_, r2.extBut _ _ (Ne.symm n1) q2, rfl⟩
        · obtain ⟨o, e, q⟩ := q3; exact ⟨o, r2.extBut _ _ (Ne.symm n2) e, q⟩
        · obtain ⟨o, e, q⟩ := q4; exact ⟨o, r2.extBut _ _ (Ne.symm n3) e, q⟩
    have hT : h''.get? s₁.heap.objs.size = some { cls := .type "tuple", data := .seq #[vs[i], ws[i]'(hlen ▸ hlt)] } := r2.extBut _ _ hTsz q5
    rw [assign_Tuple]
    refine wpAny_bind (wpAny_standAt ?_)
    refine unpack_tuple hh (items := #[vs[i], ws[i]'(hlen ▸ hlt)]) ⟨_, hT, rfl, _, rfl⟩ (hea C) (hst C) fun h3 he3 => ?_
    have S3 := hS.keeps (h' := h3) (fun b o e => he3 b o (Nat.ne_of_lt (Heap.lt_size e)) e) s₁.toks
    have S4 : St B F₁ ((C, NsO mc) :: (D, ListO ys) :: ([(z, ZipO TI TO .none), (TO, PairO vs[i] (ws[i]'(hlen ▸ hlt))), (i1, IterO l1 (i + 1)), (i2, IterO l2 (i + 1))] ++ own)) { s₁ with heap := h3, toks := s₁.toks } := by
      refine S3.perm ?_
      have p1 : ∀ (x y a b c d : Addr × (Obj → Prop)) (l : Own), (x :: y :: ([a, b, c, d] ++ l)).Perm ([a, b, c, d] ++ (x :: y :: l)) := fun x y a b c d l => by
        have := List.perm_append_comm (l₁ := [x, y]) (l₂ := [a, b, c, d])
        exact this.append_right l
      exact p1 _ _ _ _ _ _ _
    refine wpAny_mono (item C D i _ _ F₁ _ ys _ mc hv hw hsub hJ S4) (fun _ s₂ h₂ => wpAny_mono h₂ (fun ok s₃ h₃ => ?_) fun _ _ x => x) fun _ _ x => x
    obtain ⟨rfl, h₃⟩ := h₃
    rw [if_pos rfl]
    refine wpAny_mono h₃ (fun y s₄ h₄ => ?_) fun _ _ x => x
    obtain ⟨hsz, F₂, mc', hs₂, hJ₂, S₅⟩ := h₄
    exact ⟨hlt, hsz, F₂, _, mc', ⟨_, _, rfl, hsub.trans hs₂, hJ₂⟩, S₅⟩
  · have hN : i = vs.length := by omega
    subst hN
    refine wpAny_pyNext_zip_end hh D4 hz (S.fz _ _ hTI₁) hTO h1 h2 hl1 hl2 (.inl (by simp)) fun h' hk => ?_
    have hS : St B F₁ ([(z, fun _ => True), (TO, fun _ => True), (i1, fun _ => True), (i2, fun _ => True)].take 0 ++ ((C, NsO mc) :: (D, ListO ys) :: own)) { s₁ with heap := h', toks := s₁.toks } := by
      have S5 : St B F₁ ((C, NsO mc) :: (D, ListO ys) :: own) s₁ := Sp.pop.pop.pop.pop
      refine ⟨S5.gens, S5.os, S5.dr, fun b o e => ?_, fun p hp => ?_, S5.nd⟩
      · have hb : b ∉ [z, TO, i1, i2] := fun hm => by rw [hF4 b hm] at e; cases e
        have hc' : b ≠ z ∧ b ≠ TO ∧ b ≠ i1 ∧ b ≠ i2 := by simpa using hb
        exact hk b o hc'.1 hc'.2.1 hc'.2.2.1 hc'.2.2.2 (S5.fz _ _ e)
      · obtain ⟨x, o, e, q⟩ := S5.ow p hp
        have hb : p.1 ∉ [z, TO, i1, i2] := fun hm => by
          rw [List.map_append] at hnd
          exact (List.nodup_append.mp hnd).2.2 _ hm _ (List.mem_map_of_mem hp) rfl
        have hc' : p.1 ≠ z ∧ p.1 ≠ TO ∧ p.1 ≠ i1 ∧ p.1 ≠ i2 := by simpa using hb
        exact ⟨x, o, hk _ o hc'.1 hc'.2.1 hc'.2.2.1 hc'.2.2.2 e, q⟩
    exact fin C D F₁ ys _ mc hsub hJ hS
end
end
end Mine
end
section
open PySem PySem.W PyProof.Rows PySem.Calls
set_option Elab.async false
set_option maxRecDepth 100000
set_option maxHeartbeats 4000000
namespace Mine
noncomputable section
noncomputable def fdMarkS : {x : FuncData // fdAt P0 199 = x} := by
  refine' ⟨_, _⟩
  rotate_left
  conv => lhs; whnf
noncomputable def fdMark : FuncData := fdMarkS.1
section
variable {B : Shared} {F F' : Heap} {own own' : Own} {s : Shared} {w : World} {A : Around} {E : Value → Shared → Prop} {env : Env} {m : Str → Option Value}

theorem St.adopt {a : Addr} {P : Obj → Prop} {o : Obj} (S : St B F own s) (e : s.heap.get? a = some o) (hP : P o) (hF : F.get? a = none) (hn : a ∉ own.map (·.1)) : St B F ((a, P) :: own) s :=
  ⟨S.gens, S.os, S.dr, S.fz, fun p hp => by
    rcases List.mem_cons.mp hp with rfl | hp
    · exact ⟨hF, o, e, hP⟩
    · exact S.ow p hp, List.nodup_cons.mpr ⟨hn, S.nd⟩⟩
theorem St.noneF {a : Addr} (S : St B F own s) (h : s.heap.objs.size ≤ a) : F.get? a = none := by
  cases q : F.get? a with
  | none => rfl
  | some o => exact absurd (Heap.lt_size (S.fz _ _ q)) (Nat.not_lt.mpr h)

theorem r_zip {l1 l2 : Addr} {xs ys : List Value} {Q : Value → Shared → Prop} (S : St B F own s) (hl1 : s.heap.IsList l1 xs.toArray) (hl2 : s.heap.IsList l2 ys.toArray)
    (h : ∀ F' z TI TO i1 i2 s', Sub F F' → St B F' ((z, ZipO TI TO .none) :: (TO, PairO .none .none) :: (i1, IterO l1 0) :: (i2, IterO l2 0) :: own) s' →
      F'.get? TI = some { cls := .type "tuple", data := .seq #[.ref i1, .ref i2] } → (∀ a ∈ [z, TO, i1, i2], l1 ≠ a ∧ l2 ≠ a) → Q (.ref z) s') :
    wpAny (model pg w) A (call (.type "zip") [.ref l1, .ref l2]) Q E s := by
  refine call_zip_2 hl1 hl2 fun h' q1 q2 q3 q4 q5 q6 q7 => ?_
  have n0 : ∀ k, s.heap.objs.size + k ∉ own.map (·.1) := fun k => S.notin (Nat.le_add_right _ _)
  have f0 : ∀ k, F.get? (s.heap.objs.size + k) = none := fun k => S.noneF (Nat.le_add_right _ _)
  have S0 := S.keeps (h' := h') q7 s.toks
  obtain ⟨o4, e4, r4⟩ := q4
  obtain ⟨o5, e5, r5⟩ := q5
  have S1 := S0.adopt (P := IterO l2 0) (a := s.heap.objs.size + 1) e5 r5 (f0 1) (n0 1)
  have S2 := S1.adopt (P := IterO l1 0) (a := s.heap.objs.size) e4 r4 (f0 0) (by
    intro hm; rcases List.mem_cons.mp hm with e | hm
    · have : s.heap.objs.size = s.heap.objs.size + 1 := e
      omega
    · exact n0 0 hm)
  have S3 := S2.adopt (P := PairO .none .none) (a := s.heap.objs.size + 3) q3 rfl (f0 3) (by
    intro hm; rcases List.mem_cons.mp hm with e | hm
    · have : s.heap.objs.size + 3 = s.heap.objs.size := e
      omega
    · rcases List.mem_cons.mp hm with e | hm
      · have : s.heap.objs.size + 3 = s.heap.objs.size + 1 := e
        omega
      · exact n0 3 hm)
  have S4 := S3.adopt (P := ZipO (s.heap.objs.size + 2) (s.heap.objs.size + 3) .none) (a := s.heap.objs.size + 4) q1 rfl (f0 4) (by
    intro hm; rcases List.mem_cons.mp hm with e | hm
    · have : s.heap.objs.size + 4 = s.heap.objs.size + 3 := e
      omega
    · rcases List.mem_cons.mp hm with e | hm
      · have : s.heap.objs.size + 4 = s.heap.objs.size := e
        omega
      · rcases List.mem_cons.mp hm with e | hm
        · have : s.heap.objs.size + 4 = s.heap.objs.size + 1 := e
          omega
        · exact n0 4 hm)
  obtain ⟨F₁, hs₁, S5, hF⟩ := S4.rebase
  have hlt1 : l1 < s.heap.objs.size := by obtain ⟨o, e, _⟩ := hl1; exact Heap.lt_size e
  have hlt2 : l2 < s.heap.objs.size := by obtain ⟨o, e, _⟩ := hl2; exact Heap.lt_size e
  refine h F₁ _ _ _ _ _ _ hs₁ S5 (hF _ _ q2 ?_) ?_
  · intro hm
    have hm' : s.heap.objs.size + 2 ∈ (s.heap.objs.size + 4) :: (s.heap.objs.size + 3) :: s.heap.objs.size :: (s.heap.objs.size + 1) :: own.map (·.1) := hm
    simp only [List.mem_cons] at hm'
    rcases hm' with e | e | e | e | hm'
    · omega
    · omega
    · omega
    · omega
    · exact n0 2 hm'
  · intro a ha
    simp only [List.mem_cons, List.not_mem_nil, or_false] at ha
    have k1 : ∀ k, l1 ≠ s.heap.objs.size + k := fun k => Nat.ne_of_lt (Nat.lt_of_lt_of_le hlt1 (Nat.le_add_right _ _))
    have k2 : ∀ k, l2 ≠ s.heap.objs.size + k := fun k => Nat.ne_of_lt (Nat.lt_of_lt_of_le hlt2 (Nat.le_add_right _ _))
    rcases ha with rfl | rfl | rfl | rfl
    · exact ⟨k1 4, k2 4⟩
    · exact ⟨k1 3, k2 3⟩
    · exact ⟨k1 0, k2 0⟩
    · exact ⟨k1 1, k2 1⟩

theorem r_setItemK {l : Addr} {xs : List Value} {k : Int} {t : Tok} {v : Value} {Q : Unit → Shared → Prop} (S : St B F own s) (u : Upd own l (ListO xs) (ListO (xs.set k.toNat v)) own')
    (h0 : 0 ≤ k) (hfit : k < 2 ^ 63) (hn : k < xs.length) (h : ∀ s', St B F own' s' → Q () s') : wpAny (model pg w) A (setItem (.ref l) (.int k t) v) Q E s := by
  obtain ⟨o, ho, n, rfl⟩ := S.at u
  have hl : s.heap.IsList l xs.toArray := ⟨_, ho, rfl, n, rfl⟩
  have hd : ({ cls := .type "list", data := .seq xs.toArray n } : Obj).data = .seq xs.toArray n := rfl
  have S' := S.updAt u (Heap.SameBut.update (h := s.heap) (a := l) (f := Obj.mapSeq (·.setIfInBounds k.toNat v))) (Heap.get?_update_self _ ho rfl) ⟨_, by rw [← List.setIfInBounds_toArray]; rfl⟩ s.toks
  unfold setItem
  try with_reducible refine wpAny_holding ?_
  first | refine wpAny_bind (wpAny_pure ?_) | skip
  refine wpAny_bind (wpAny_sequenceKey hl.typeIs (by decide) ?_)
  refine wpAny_bind (wpAny_callSpecial?_slot (name := Str.ofString "__setitem__") hl.typeIs slot_list_setitem
    (wpAny_call_entry slot_list_setitem hl.typeIs entry_list_setitem ?_ (args_list_setitem _ _ _)))
  show wpAny _ _ (Builtin.List.listSubscript? (.int k t) >>= _) _ _ s
  refine wpAny_bind (wpAny_listSubscript_int (fitsIndex_of h0 hfit) ?_)
  clear hfit
  obtain ⟨j, rfl⟩ := Int.eq_ofNat_of_zero_le h0
  have hj : j < xs.toArray.size := by rw [List.size_toArray]; omega
  have hx' : xs.toArray[j]? = some xs.toArray[j] := Array.getElem?_eq_getElem hj
  show wpAny _ _ ((seqItemAt l j >>= fun r => pure (r.map (j, ·))) >>= _) _ _ s
  refine wpAny_bind (wpAny_bind (wpAny_seqItemAt ho hd (wpAny_pure ?_)))
  rw [hx']
  show wpAny _ _ (setSeqItemAt l j v >>= _) _ _ s
  refine wpAny_bind (wpAny_setSeqItemAt ho hd ?_)
  have fin := h _ S'
  first
    | exact wpAny_bind (wpAny_pure (wpAny_pure ⟨.none, rfl, wpAny_pure fin⟩))
    | exact wpAny_pure ⟨.none, rfl, wpAny_pure fin⟩
theorem r_setItem {l : Addr} {xs : List Value} {i : Nat} {t : Tok} {v : Value} {Q : Unit → Shared → Prop} (S : St B F own s) (u : Upd own l (ListO xs) (ListO (xs.set i v)) own')
    (hi : i < xs.length) (hfit : (i : Int) < 2 ^ 63) (h : ∀ s', St B F own' s' → Q () s') : wpAny (model pg w) A (setItem (.ref l) (.int i t) v) Q E s :=
  r_setItemK S (by rw [Int.toNat_natCast]; exact u) (Int.natCast_nonneg i) hfit (by omega) h

noncomputable def IsB (_ : Heap) (v : Value) (b : Bool) : Prop := v = .bool b
theorem isB_sub (F F' : Heap) (v : Value) (b : Bool) (h : IsB F v b) (_ : Sub F F') : IsB F' v b := h
theorem bools_of_all2 {F : Heap} {vs : List Value} {bs : List Bool} (h : All2 (IsB F) vs bs) : vs = bs.map Value.bool := by
  induction h with
  | nil => rfl
  | cons x _ ih => rw [List.map_cons, ih, x]

theorem marks_spec {ov sv : Value} {ow : List Int} {st : List Sp} {Q : Value → Shared → Prop} (S : St B F ((196, TabO #[]) :: own) s) (hB : Bs w F) (hA : Rm 6 A)
    (ho : IntL F ov ow) (hs : StepL F sv st) (hp : PlanOk ow st)
    (h : ∀ F' v ps st' s', Sub F F' → St B F' ((196, TabO ps) :: own) s' → st'.Perm st → st'.Pairwise (fun x y => x.b ≤ y.b) → IntL F' v (marksF ow st st') → Q v s') :
    wpAny (model pg w) A (call (.ref 199) [ov, sv]) Q E s := by
  refine r_enterC (k := 5) (fd := fdMark) S hB hA rfl rfl rfl rfl rfl (locs rfl) (by intro L p hp; rcases List.mem_cons.mp hp with rfl | hp; rfl; cases hp) fun L s₁ S₁ hA₁ => ?_
  obtain ⟨m₀, hmo, hms, S₁⟩ : ∃ m₀ : Str → Option Value, m₀ "own" = some ov ∧ m₀ "steps" = some sv ∧ St B F (((callEnvC fdMark L 199).locals, NsO m₀) :: (L + 1, CellO none) :: (196, TabO #[]) :: own) s₁ := ⟨_, rfl, rfl, S₁⟩
  refine wpAny_execs_cons (wpAny_Assign_Name (r_local S₁ hmo (r_store S₁ fun s₂ S₂ => ?_)))
  have C : CodeHd F 198 196 := codeHd_of_K (c := 198) (P := 196) hB.K (by kernel_rfl)
  obtain ⟨ls, vs, rfl, hls, hvs⟩ := hs
  refine wpAny_execs_cons (wpAny_Assign_Name (wpAny_Call_Name_kw (r_builtin S₂ hB rfl (by boot_fast) (by decide) (callWith_kw (args_cons (r_local S₂ hms (args_nil (kws_cons ?_))))))))
  refine r_lambda (ps := #[]) S₂ hB (fun ps' => .tail (.tail .head)) C rfl (.inl rfl) rfl rfl (by decide) (by decide) rfl fun F₃ f c' ps₃ pm ctv s₃ hs₃ S₃ _ hf hrec => kws_nil ?_
  have hlenv := hvs.length
  refine r_sortedK (f := f) (kz := st.map fun x => (x.b : Int)) S₃ (isL_sub hls (hs₃.trans S₃.fz)) (by rw [List.length_map]; exact hlenv.symm) (by rw [hlenv]; have := hp.few; omega) ?_ fun F₄ D out s₄ hs₄ S₄ hlD hko => ?_
  · intro i v k B₁ F₁ s₁ hv hk hsub S₁ Q' hQ
    have hlt : i < vs.length := (List.getElem?_eq_some_iff.mp hv).1
    obtain ⟨x, hxi⟩ : ∃ x, st[i]? = some x := ⟨_, List.getElem?_eq_getElem (hlenv ▸ hlt)⟩
    obtain ⟨v', hv', hx⟩ := hvs.get hxi
    rw [hv] at hv'
    cases hv'
    rw [List.getElem?_map, hxi] at hk
    cases hk
    refine r_callL (k := 2) S₁ (hB.sub (hs₃.trans hsub)) (hA₁.le (by decide : 5 ≤ 5)).in1.in1 (hsub _ _ hf) (hrec.keeps hsub) rfl (by decide) (locs rfl) fun L₂ s₂ S₂ hA₂ => ?_
    exact r_itemC (env := lenv _ L₂ _ _ f c') S₂ rfl (IntL.sub hx (hs₃.trans hsub)) (by decide) (by decide) rfl fun t s₃ S₃ => hQ F₁ t s₃ (Sub.refl _) S₃.pop
  obtain ⟨ps, hpp, hout, hpw⟩ := hko
  obtain ⟨st', hperm, hall, hkeys⟩ := sort_all2 (key := fun x : Sp => (x.b : Int)) (hvs.mono fun _ _ q => StepP.sub q (hs₃.trans hs₄)) hpp
  have hpair : st'.Pairwise (fun x y => x.b ≤ y.b) := by
    have : (st'.map fun x => (x.b : Int)).Pairwise (· ≤ ·) := by rw [hkeys, List.pairwise_map]; simpa using hpw
    rw [List.pairwise_map] at this
    exact this.imp fun h => by omega
  have hri : StepL F₄ (.ref D) st' := ⟨D, out, rfl, hlD, hout ▸ hall⟩
  refine r_store S₄ fun s₅ S₅ => ?_
  obtain ⟨m₅, S5, hmo5, hms5, hmr5, hmt5⟩ : ∃ m₅ : Str → Option Value, St B F₄ (((callEnvC fdMark L 199).locals, NsO m₅) :: (L + 1, CellO none) :: (196, TabO ps₃) :: own) s₅ ∧ m₅ "own" = some ov ∧ m₅ "steps" = some (.ref ls) ∧ m₅ "rising" = some (.ref D) ∧ m₅ "tops" = some ov := ⟨_, S₅, hmo, hms, rfl, rfl⟩
  clear S₁ S₂ S₃ S₄ S₅ hmo hms
  have hs4 : Sub F F₄ := hs₃.trans hs₄
  have hst4 : StepL F₄ (.ref ls) st := ⟨ls, vs, rfl, isL_sub hls hs4, hvs.mono fun _ _ q => StepP.sub q hs4⟩
  have hst8 : st.length ≤ sizeLine := Nat.le_trans hp.few (by decide +kernel)
  obtain ⟨lo, vo, rfl, hlo, hio⟩ := ho
  refine wpAny_execs_cons (wpAny_For (wpAny_BinOp (wpAny_BinOp (r_local S5 hmo5 ?_))))
  refine r_compS (X := StepP) (Y := IsI) (p := fun _ => true) (g := fun x => x.lo) hA₁.hd (fun _ _ _ _ q k => StepP.sub q k) isI_sub rfl (by decide) rfl (by decide) rfl (r_local S5 hms5 ⟨_, _, _, _, S5, hst4, hst8, ?_, ?_⟩)
  · intro C D ys I PI F₆ mc s₆ v x hs₆ hx S₆
    refine wpAny_tests_nil ⟨rfl, F₆, Sub.refl _, S₆, fun _ => ?_⟩
    exact r_itemC (env := compEnvC _ _ C _) S₆ rfl hx (by decide) (by decide) rfl fun t s₇ S₇ => ⟨F₆, Sub.refl _, ⟨_, rfl⟩, S₇⟩
  intro F₆ D₆ ys₆ s₆ hs₆ hys₆ S₆
  rw [List.filter_eq_self.mpr (by simp)] at hys₆
  refine r_add S₆ (isL_sub hlo ((hs4.trans hs₆).trans S₆.fz)) (list_of S₆.head) ?_ fun F₇ a₇ s₇ hs₇ S₇ hl₇ => ?_
  · rw [hio.length, hys₆.length, List.length_map]
    exact Nat.le_trans (Nat.add_le_add hp.hi hp.few) (by decide +kernel)
  have S₇ := S₇.pop
  refine r_compS (X := StepP) (Y := IsI) (p := fun _ => true) (g := fun x => x.hi) hA₁.hd (fun _ _ _ _ q k => StepP.sub q k) isI_sub rfl (by decide) rfl (by decide) rfl (r_local S₇ hms5 ⟨_, _, _, _, S₇, hst4.sub (hs₆.trans hs₇), hst8, ?_, ?_⟩)
  · intro C D ys I PI F₆ mc s₆ v x hs₆ hx S₆
    refine wpAny_tests_nil ⟨rfl, F₆, Sub.refl _, S₆, fun _ => ?_⟩
    exact r_itemC (env := compEnvC _ _ C _) S₆ rfl hx (by decide) (by decide) rfl fun t s₇ S₇ => ⟨F₆, Sub.refl _, ⟨_, rfl⟩, S₇⟩
  intro F₈ D₈ ys₈ s₈ hs₈ hys₈ S₈
  rw [List.filter_eq_self.mpr (by simp)] at hys₈
  refine r_add S₈ (isL_sub hl₇ (hs₈.trans S₈.fz)) (list_of S₈.head) ?_ fun F₉ a₉ s₉ hs₉ S₉ hl₉ => ?_
  · rw [List.length_append, hio.length, hys₆.length, hys₈.length, List.length_map, List.length_map]
    exact Nat.le_trans (Nat.add_le_add (Nat.add_le_add hp.hi hp.few) hp.few) (by decide +kernel)
  have S₉ := S₉.pop
  have hims : IntsAre (vo ++ ys₆ ++ ys₈) (ow ++ st.map (·.lo) ++ st.map (·.hi)) := (hio.append (ints_of_all2 hys₆)).append (ints_of_all2 hys₈)
  generalize hvm : vo ++ ys₆ ++ ys₈ = vm at *
  have hs9 : Sub F F₉ := (((hs4.trans hs₆).trans hs₇).trans hs₈).trans hs₉
  have hs49 : Sub F₄ F₉ := ((hs₆.trans hs₇).trans hs₈).trans hs₉
  refine r_loop (l := a₉) (vs := vm) hA₁.hd
    (fun i F₁ m₁ own₁ => ∃ cv tv, own₁ = (L + 1, CellO cv) :: (196, TabO ps₃) :: own ∧ Sub F₉ F₁ ∧ m₁ "own" = some (.ref lo) ∧ m₁ "rising" = some (.ref D) ∧ m₁ "tops" = some tv ∧
      IntL F₁ tv (((ow ++ st.map (·.lo) ++ st.map (·.hi)).take i).foldl (topStep ow st') ow))
    S₉ (isL_sub hl₉ S₉.fz) ⟨none, _, rfl, Sub.refl _, hmo5, hmr5, hmt5, ⟨lo, vo, rfl, isL_sub hlo hs9, hio⟩⟩
    (fun i F₁ m₁ own₁ s₁ hI S => by obtain ⟨_, _, _, hs, _⟩ := hI; exact isL_sub hl₉ (hs.trans S.fz)) ?_ ?_
  · intro it i v F₁ m₁ own₁ s₁ hv hOb1 S₁
    refine gen_turn fun Q₁ E₁ E₁' hQ₁ => ?_
    obtain ⟨cv, tv, rfl, hsub, hmo, hmr, hmt, htops⟩ := hOb1
    have hlt : i < vm.length := (List.getElem?_eq_some_iff.mp hv).1
    obtain ⟨mk, hmk⟩ : ∃ mk, (ow ++ st.map (·.lo) ++ st.map (·.hi))[i]? = some mk := ⟨_, List.getElem?_eq_getElem (hims.length ▸ hlt)⟩
    obtain ⟨tm, hv'⟩ := hims.get _ _ hmk
    rw [hv] at hv'
    cases hv'
    refine wpAny_assign_Name (r_storeC S₁ rfl (.tail (.tail .head)) fun s₂ S₂ => ?_)
    have hB₁ := hB.sub (hs9.trans hsub)
    -- reached
    refine wpAny_execs_cons (r_compAS (X := IsI) (Y := IsB) (p := fun _ => true) (g := fun l : Int => decide (l ≥ mk)) hA₁.hd isI_sub isB_sub rfl rfl (by decide) rfl (by decide) rfl rfl rfl
      (r_local S₂ hmo ⟨_, _, _, _, _, S₂, (IntL.lst (ns := ow) ⟨lo, vo, rfl, isL_sub hlo (hs9.trans hsub), hio⟩), Nat.le_trans hp.hi (by decide +kernel), ?_, ?_⟩))
    · intro C D ys I PI F₆ mc s₆ v x hs₆ hx S₆
      obtain ⟨tx, rfl⟩ := hx
      refine wpAny_tests_nil ⟨rfl, F₆, Sub.refl _, S₆, fun _ => ?_⟩
      exact wpAny_Compare1 (r_local (env := compEnvC _ _ C _) S₆ rfl (r_cell (env := compEnvC _ _ C _) (c := L + 1) S₆ (.tail _ (.tail _ (.tail _ (.tail _ (.tail _ (.head _)))))) rfl (ge_int ⟨F₆, Sub.refl _, rfl, S₆⟩)))
    intro F₃' R ys₃ s₃ hs₃' hys₃ S₃
    rw [List.filter_eq_self.mpr (by simp)] at hys₃
    have eys := bools_of_all2 hys₃
    subst eys
    have htops₃ := htops.sub hs₃'
    obtain ⟨m₃, S3, hmo3, hmr3, hmt3, hmre3⟩ : ∃ m₃ : Str → Option Value, St B F₃' (((callEnvC fdMark L 199).locals, NsO m₃) :: (R, ListO ((ow.map fun l => decide (l ≥ mk)).map Value.bool)) :: (it, IterO a₉ (i + 1)) :: (L + 1, CellO (some (.int mk tm))) :: (196, TabO ps₃) :: own) s₃ ∧
      m₃ "own" = some (.ref lo) ∧ m₃ "rising" = some (.ref D) ∧ m₃ "tops" = some tv ∧ m₃ "reached" = some (.ref R) := ⟨_, S₃, hmo, hmr, hmt, rfl⟩
    clear S₁ S₂ S₃ hmo hmr hmt
    have hlD₃ : F₃'.IsList D out.toArray := isL_sub hlD ((hs49.trans hsub).trans hs₃')
    have hall₃ : All2 (StepP F₃') out st' := (hout ▸ hall).mono fun _ _ q => StepP.sub q ((hs49.trans hsub).trans hs₃')
    have hst'v : ∀ x ∈ st', x.a < ow.length ∧ x.b < ow.length := fun x hx => by
      have hx' := hperm.mem_iff.mp hx
      have := hp.up x hx'; have := hp.inn x hx'
      omega
    refine wpAny_execs_cons (wpAny_For (r_local S3 hmr3 ?_))
    refine r_loop (l := D) (vs := out) hA₁.hd
      (fun j F₁ m₁ own₁ => own₁ = (R, ListO (((st'.take j).foldl (markStep mk) (ow.map fun l => decide (l ≥ mk))).map Value.bool)) :: (it, IterO a₉ (i + 1)) :: (L + 1, CellO (some (.int mk tm))) :: (196, TabO ps₃) :: own ∧ F₁ = F₃' ∧
        m₁ "own" = some (.ref lo) ∧ m₁ "rising" = some (.ref D) ∧ m₁ "tops" = some tv ∧ m₁ "reached" = some (.ref R))
      S3 (isL_sub hlD₃ S3.fz) ⟨rfl, rfl, hmo3, hmr3, hmt3, hmre3⟩
      (fun i F₁ m₁ own₁ s₁ hI S => by obtain ⟨_, rfl, _⟩ := hI; exact isL_sub hlD₃ S.fz) ?_ ?_
    · intro it₂ j v F₁ m₁ own₁ s₄ hvj hOb2 S₄
      refine gen_turn fun Q₂ E₂ E₂' hQ₂ => ?_
      obtain ⟨rfl, rfl, hmo, hmr, hmt, hmre⟩ := hOb2
      have hltj : j < out.length := (List.getElem?_eq_some_iff.mp hvj).1
      obtain ⟨x, hxj⟩ : ∃ x, st'[j]? = some x := ⟨_, List.getElem?_eq_getElem (hall₃.length ▸ hltj)⟩
      obtain ⟨v', hv', lx, vx, rfl, hlx, hix⟩ := hall₃.get hxj
      rw [hvj] at hv'
      cases hv'
      obtain ⟨t1, t2, t3, t4, rfl⟩ := ints4 hix
      have htake : (st'.take (j + 1)).foldl (markStep mk) (ow.map fun l => decide (l ≥ mk)) = markStep mk ((st'.take j).foldl (markStep mk) (ow.map fun l => decide (l ≥ mk))) x := by
        rw [List.take_add_one, hxj]; simp
      have hrs : ((st'.take j).foldl (markStep mk) (ow.map fun l => decide (l ≥ mk))).length = ow.length := by rw [foldl_mark_len, List.length_map]
      rw [htake] at hQ₂
      generalize (st'.take j).foldl (markStep mk) (ow.map fun l => decide (l ≥ mk)) = rs at *
      obtain ⟨hxa, hxb⟩ := hst'v x (List.mem_of_getElem? hxj)
      refine r_unpack hA₁.hd S₄ (isL_sub hlx S₄.fz) rfl rfl fun s₅ S₅ => ?_
      refine aio_cons (wpAny_assign_Name (r_store S₅ fun s₆ S₆ => ?_))
      refine aio_cons (wpAny_assign_Name (r_store S₆ fun s₇ S₇ => ?_))
      refine aio_cons (wpAny_assign_Name (r_store S₇ fun s₈ S₈ => ?_))
      refine aio_cons (wpAny_assign_Name (r_store S₈ fun s₉ S₉ => aio_nil ?_))
      have hR := list_of (S₉.mem (a := R) (P := ListO (rs.map Value.bool)) (.tail _ (.tail _ (.head _))))
      refine wpAny_execs_cons (wpAny_If (wpAny_mono (Q := fun b s' => b = decide (x.hi ≥ mk ∧ (x.lo ≥ mk ∨ rs.getD x.a false = true)) ∧ s' = s₉) ?_ (fun b s' hb => ?_) (fun _ _ q => q)))
      · refine wpAny_isTrue_BoolOp (wpAny_allTrue_And_cons (wpAny_isTrue_Compare1 (r_local S₉ rfl (r_cell (c := L + 1) S₉ (.tail _ (.tail _ (.tail _ (.tail _ (.head _))))) rfl (ge_int (wpAny_truthy_bool ?_))))))
        by_cases h1 : mk ≤ x.hi
        · rw [if_pos (by simpa using h1)]
          refine wpAny_allTrue_And_cons (wpAny_isTrue_BoolOp (wpAny_allTrue_Or_cons (wpAny_isTrue_Compare1 (r_local S₉ rfl (r_cell (c := L + 1) S₉ (.tail _ (.tail _ (.tail _ (.tail _ (.head _))))) rfl (ge_int (wpAny_truthy_bool ?_)))))))
          by_cases h2 : mk ≤ x.lo
          · rw [if_pos (by simpa using h2)]
            rw [if_pos rfl]
            exact wpAny_allTrue_And_nil ⟨by simp [h1, h2], rfl⟩
          · rw [if_neg (by simpa using h2)]
            refine wpAny_allTrue_Or_cons (wpAny_isTrue_value (Subscript_ (r_local S₉ hmre (r_local S₉ rfl ?_))))
            have hra : rs[x.a]? = some (rs.getD x.a false) := by rw [List.getD_eq_getElem?_getD, List.getElem?_eq_getElem (hrs ▸ hxa)]; rfl
            refine tail_list hR (by omega) (by have := hp.hi; omega) (v := .bool (rs.getD x.a false)) (by rw [Int.toNat_natCast, List.getElem?_map, hra]; rfl) (wpAny_truthy_bool ?_)
            by_cases h3 : rs.getD x.a false = true
            · rw [if_pos h3, if_pos rfl]
              exact wpAny_allTrue_And_nil ⟨by rw [h3]; simp [h1], rfl⟩
            · rw [if_neg h3]
              refine wpAny_allTrue_Or_nil ?_
              rw [if_neg (by simp)]
              exact ⟨by simp only [Bool.not_eq_true] at h3; rw [h3]; simp; intro _; omega, rfl⟩
        · rw [if_neg (by simpa using h1)]
          exact ⟨by simp; intro h; omega, rfl⟩
      · obtain ⟨rfl, rfl⟩ := hb
        by_cases hc : x.hi ≥ mk ∧ (x.lo ≥ mk ∨ rs.getD x.a false = true)
        · rw [if_pos (by simpa using hc)]
          refine wpAny_execs_cons (wpAny_Assign_Subscript (wpAny_Constant_bool (r_local S₉ hmre (r_local S₉ rfl ?_))))
          refine r_setItem S₉ (.tail (.tail .head)) (by rw [List.length_map, hrs]; exact hxb) (by have := hp.hi; omega) fun s₁₀ S₁₀ => ?_
          refine wpAny_execs_nil (wpAny_execs_nil (hQ₂ _ _ ⟨_, _, _, ?_, S₁₀⟩))
          refine ⟨?_, rfl, hmo, hmr, hmt, hmre⟩
          rw [markStep, if_pos hc, ← List.map_set]
        · rw [if_neg (by simpa using hc)]
          refine wpAny_execs_nil (wpAny_execs_nil (hQ₂ _ _ ⟨_, _, _, ?_, S₉⟩))
          refine ⟨?_, rfl, hmo, hmr, hmt, hmre⟩
          rw [markStep, if_neg hc]
    · intro F₁ m₁ own₁ s₁ hOb3 S₁
      obtain ⟨rfl, rfl, hmo, hmr, hmt, hmre⟩ := hOb3
      have hre : (st'.take out.length).foldl (markStep mk) (ow.map fun l => decide (l ≥ mk)) = reachF ow st' mk := by
        rw [hall₃.length, List.take_length]; rfl
      rw [hre] at S₁
      have hrl := reachF_len ow st' mk
      have htl : ((((ow ++ st.map (·.lo) ++ st.map (·.hi)).take i).foldl (topStep ow st') ow)).length = ow.length := foldl_top_len ow st' _ _ rfl
      have htk : ((ow ++ st.map (·.lo) ++ st.map (·.hi)).take (i + 1)).foldl (topStep ow st') ow = topStep ow st' (((ow ++ st.map (·.lo) ++ st.map (·.hi)).take i).foldl (topStep ow st') ow) mk := by
        rw [List.take_add_one, hmk]; simp
      rw [htk] at hQ₁
      clear htk hre
      unfold topStep at *
      generalize reachF ow st' mk = rs at *
      generalize hto : List.foldl _ ow _ = tops at htops₃ htl hQ₁
      obtain ⟨lt, vt, rfl, hlt', hit⟩ := htops₃
      have hR := list_of (S₁.mem (a := R) (P := ListO (rs.map Value.bool)) (.tail _ (.head _)))
      have hB₃ := hB₁.sub hs₃'
      refine wpAny_execs_cons (r_compA rfl rfl (by decide) rfl (by decide) rfl rfl (r_CallT S₁ hB₃ rfl (by boot_fast) (by decide) (args_cons (r_local S₁ hmre (args_cons (r_local S₁ hmt (args_nil ?_)))))))
      refine r_zip S₁ hR (isL_sub hlt' S₁.fz) fun F₂ z TI TO i1 i2 s₂ hs₂ S₂ hTI hne => ?_
      have hz : IsZip s₂.heap z TI TO .none := by obtain ⟨o, e, rfl⟩ := S₂.head; exact e
      refine wpAny_pyIter_zip hz ?_
      refine ⟨z, B, F₂, _, fun _ => ZipO TI TO .none, _, _, rfl, S₂, ⟨_, _, rfl, Sub.refl _, ?jz⟩, ?_, turn_zip (vs := rs.map Value.bool) (ws := vt) (l1 := R) (l2 := lt) (i1 := i1) (i2 := i2)
        (J := fun j F₁ ys => All2 (IsI F₁) ys ((List.zipWith (topOne mk) rs tops).take j)) hA₁.hd (by rw [List.length_map, hrl, hit.length, htl]) hTI ?_ hne ?_ (fun _ => rfl) (fun _ => rfl) ?_⟩
      case jz => exact All2.nil
      · intro F₁ own₁ s₁ Q S hQ
        have hz : IsZip s₁.heap z TI TO .none := by obtain ⟨o, e, rfl⟩ := S.head; exact e
        exact wpAny_pyIter_zip hz hQ
      · intro F₁ own₁ s₁ S hs
        exact ⟨list_of (S.mem (a := R) (P := ListO (rs.map Value.bool)) (List.mem_append_right _ (.tail _ (.head _)))), isL_sub hlt' ((hs₂.trans hs).trans S.fz)⟩
      · intro C D j a b F₁ own₁ ys s₁ mc ha hb hs hJ S
        have hltj : j < rs.length := by have := (List.getElem?_eq_some_iff.mp ha).1; rwa [List.length_map] at this
        have hrj : rs[j]? = some rs[j] := List.getElem?_eq_getElem hltj
        rw [List.getElem?_map, hrj] at ha
        cases ha
        have htj : tops[j]? = some (tops[j]'(by omega)) := List.getElem?_eq_getElem (by omega)
        obtain ⟨tt, hb'⟩ := hit.get _ _ htj
        rw [hb] at hb'
        cases hb'
        have hzj : (List.zipWith (topOne mk) rs tops).take (j + 1) = (List.zipWith (topOne mk) rs tops).take j ++ [topOne mk rs[j] (tops[j]'(by omega))] := by
          rw [List.take_add_one, List.getElem?_zipWith, hrj, htj]; rfl
        have hysl : ys.length ≤ sizeLine := by
          rw [hJ.length, List.length_take]
          exact Nat.le_trans (Nat.min_le_left _ _) (Nat.le_trans (by have := hp.hi; omega : j ≤ 6) (by decide +kernel))
        refine aio_cons (wpAny_assign_Name (r_store (env := compEnvC _ _ C _) S fun s₄ S₄ => ?_))
        refine aio_cons (wpAny_assign_Name (r_store (env := compEnvC _ _ C _) S₄ fun s₅ S₅ => aio_nil ?_))
        refine wpAny_tests_nil ⟨rfl, ?_⟩
        have hc : (L + 1, CellO (some (.int mk tm))) ∈ own₁ ++ ((callEnvC fdMark L 199).locals, NsO m₁) :: (R, ListO (rs.map Value.bool)) :: (it, IterO a₉ (i + 1)) :: (L + 1, CellO (some (.int mk tm))) :: (196, TabO ps₃) :: own :=
          List.mem_append_right _ (.tail _ (.tail _ (.tail _ (.head _))))
        rw [hzj]
        refine wpAny_IfExp (wpAny_isTrue_BoolOp (wpAny_allTrue_And_cons (wpAny_isTrue_value (r_local (env := compEnvC _ _ C _) S₅ rfl (wpAny_truthy_bool ?_)))))
        by_cases h1 : rs[j] = true
        · rw [if_pos h1]
          refine wpAny_allTrue_And_cons (wpAny_isTrue_Compare1 (r_cell (env := compEnvC _ _ C _) (c := L + 1) S₅ (.tail _ (.tail _ hc)) rfl (r_local (env := compEnvC _ _ C _) S₅ rfl (gt_int (wpAny_truthy_bool ?_)))))
          by_cases h2 : mk > tops[j]
          · rw [if_pos (by simpa using h2)]
            refine wpAny_allTrue_And_nil ?_
            rw [if_pos rfl]
            refine r_cell (env := compEnvC _ _ C _) (c := L + 1) S₅ (.tail _ (.tail _ hc)) rfl ⟨hysl, F₁, _, Sub.refl _, ?_, S₅⟩
            exact hJ.append (.cons ⟨tm, by rw [topOne, if_pos ⟨h1, h2⟩]⟩ .nil)
          · rw [if_neg (by simpa using h2), if_neg (by simp)]
            refine r_local (env := compEnvC _ _ C _) S₅ rfl ⟨hysl, F₁, _, Sub.refl _, ?_, S₅⟩
            exact hJ.append (.cons ⟨tt, by rw [topOne, if_neg (fun q => h2 q.2)]⟩ .nil)
        · rw [if_neg h1, if_neg (by simp)]
          refine r_local (env := compEnvC _ _ C _) S₅ rfl ⟨hysl, F₁, _, Sub.refl _, ?_, S₅⟩
          exact hJ.append (.cons ⟨tt, by rw [topOne, if_neg (fun q => h1 q.1)]⟩ .nil)
      · intro C D F₁ ys s₁ mc hs hJ S
        refine ⟨F₁, D, ys, mc, _, _, rfl, S, fun s₂ S₂ => ?_⟩
        rw [List.length_map, List.take_of_length_le (by rw [List.length_zipWith]; omega)] at hJ
        obtain ⟨F₃, hs₃, S₃, oD, eD, nD, hD⟩ := (S₂.swap).freeze
        have S₄ := S₃.swap.pop
        refine wpAny_execs_nil (hQ₁ _ _ ⟨F₃, _, _, ?_, S₄⟩)
        refine ⟨_, _, rfl, hsub.trans (hs₃'.trans (hs₂.trans (hs.trans hs₃))), hmo, hmr, rfl, D, ys, rfl, ?_, ?_⟩
        · exact ⟨_, eD, by rw [hD], nD, by rw [hD]⟩
        · exact ints_of_all2 (hJ.mono fun _ _ q => q)
  · intro F₁ m₁ own₁ s₁ hOb4 S₁
    obtain ⟨cv, tv, rfl, hsub, _, _, hmt, htops⟩ := hOb4
    refine wpAny_execs_cons (wpAny_Return_some (r_local S₁ hmt ?_))
    rw [hims.length, List.take_length] at htops
    exact h F₁ tv ps₃ st' _ (hs9.trans hsub) S₁.pop.pop hperm hpair htops
end
end
end Mine
end
section
open PySem PySem.W PyProof.Rows PySem.Calls
set_option Elab.async false
set_option maxRecDepth 100000
set_option maxHeartbeats 4000000
namespace Mine
noncomputable section
/-! ## attributes of instances -/
noncomputable def Att1 (e : DictEntry) (p : Str × Value) : Prop := (∃ t, e.key = .str p.1 t) ∧ e.val = p.2
noncomputable def AttO (l : List (Str × Value)) (o : Obj) : Prop := ∃ es n, o = dictOf es n ∧ All2 Att1 es l
noncomputable def getP (name : Str) : List (Str × Value) → Option Value
  | [] => none
  | p :: r => if p.1 = name then some p.2 else getP name r
noncomputable def putP (name : Str) (v : Value) : List (Str × Value) → List (Str × Value)
  | [] => [(name, v)]
  | p :: r => if p.1 = name then (p.1, v) :: r else p :: putP name v r
theorem isStr_str (n name : Str) (t : Tok) : (Value.str n t).isStr name = decide (n = name) := by
  unfold Value.isStr
  by_cases h : n = name
  · subst h; simp
  · simp [h]
theorem att_noRef {es : List DictEntry} {l : List (Str × Value)} (h : All2 Att1 es l) : es.any (·.refKey) = false := by
  induction h with
  | nil => rfl
  | cons x _ ih =>
    obtain ⟨⟨t, e⟩, _⟩ := x
    rw [List.any_cons, ih]
    simp [DictEntry.refKey, e]
theorem att_get {es : List DictEntry} {l : List (Str × Value)} {name : Str} (h : All2 Att1 es l) : getL name es = some (getP name l) := by
  have hr := att_noRef h
  unfold getL
  have key : es.find? (·.key.isStr name) = none ∧ getP name l = none ∨ ∃ e, es.find? (·.key.isStr name) = some e ∧ getP name l = some e.val := by
    clear hr
    induction h with
    | nil => exact .inl ⟨rfl, rfl⟩
    | cons x _ ih =>
      obtain ⟨⟨t, e⟩, ev⟩ := x
      rw [List.find?_cons, e, isStr_str]
      unfold getP
      split
      · rename_i q
        rw [if_pos (by simpa using q)]
        exact .inr ⟨_, rfl, by rw [ev]⟩
      · rename_i q
        rw [if_neg (by simpa using q)]
        exact ih
  rcases key with ⟨a, b⟩ | ⟨e, a, b⟩
  · rw [a, b, hr]; rfl
  · rw [a, b]
theorem att_put {es : List DictEntry} {l : List (Str × Value)} {name : Str} {hsh : Int} {t : Tok} {v : Value} (h : All2 Att1 es l) : All2 Att1 (putL name hsh (.str name t) v es) (putP name v l) := by
  induction h with
  | nil => exact .cons ⟨⟨t, rfl⟩, rfl⟩ .nil
  | cons x r ih =>
    obtain ⟨⟨t', e⟩, ev⟩ := x
    unfold putL putP
    rw [e, isStr_str]
    split
    · rename_i q
      rw [if_pos (by simpa using q)]
      exact .cons ⟨⟨t', rfl⟩, rfl⟩ r
    · rename_i q
      rw [if_neg (by simpa using q)]
      exact .cons ⟨⟨t', e⟩, ev⟩ ih

theorem fm_keys {α : Type} (f : Nat → Option (Nat × α)) (hf : ∀ b p, f b = some p → p.1 = b) : ∀ l : List Nat, (l.filterMap f).map (·.1) |>.Sublist l
  | [] => by simp
  | b :: l => by
    rw [List.filterMap_cons]
    split
    · exact (fm_keys f hf l).cons _
    · rename_i p e
      rw [List.map_cons, hf b p e]
      exact (fm_keys f hf l).cons₂ _
theorem all_split {h : Heap} {L d : Addr} {o : Obj} (e : h.get? d = some o) (hne : d ≠ L) : ∃ pre post, allObjs h L = pre ++ (d, o) :: post ∧ (∀ p ∈ pre, p.1 ≠ d) ∧ ∀ p ∈ post, p.1 ≠ d := by
  obtain ⟨pre, post, hs⟩ := List.append_of_mem (mem_allObjs.mpr ⟨e, hne⟩)
  have nd : ((allObjs h L).map (·.1)).Nodup := by
    refine List.Nodup.sublist (fm_keys _ ?_ (List.range h.objs.size)) List.nodup_range
    intro b p hp
    split at hp
    · cases hp
    · cases q : h.get? b with
      | none => rw [q] at hp; cases hp
      | some o' => rw [q] at hp; cases hp; rfl
  rw [hs, List.map_append, List.map_cons] at nd
  have nd' := List.nodup_append.mp nd
  have nc := List.nodup_cons.mp nd'.2.1
  refine ⟨pre, post, hs, fun p hp e' => ?_, fun p hp e' => ?_⟩
  · exact nd'.2.2 _ (List.mem_map_of_mem hp) _ (.head _) e'
  · exact nc.1 (e' ▸ List.mem_map_of_mem (f := (·.1)) hp)
section
variable {B : Shared} {F F' : Heap} {own own' : Own} {s : Shared} {w : World} {A : Around} {E : Value → Shared → Prop} {env : Env} {m : Str → Option Value} {P P' : Obj → Prop}

theorem st_upd {L d : Addr} {h' : Heap} {tk : Nat} {pre post : List (Addr × Obj)} {o o' : Obj} (S : St B F ((L, NsO m) :: own) s) (u : Upd own d P P' own') (Fr' : Fr noHeap L h' m) (N' : News noHeap L h' (pre ++ (d, o') :: post))
    (hsp : allObjs s.heap L = pre ++ (d, o) :: post) (hP : P' o') : St B F ((L, NsO m) :: own') { s with heap := h', toks := tk } := by
  obtain ⟨r, h1, h2⟩ := u.perm
  have S1 : St B F ([(L, NsO m), (d, P)] ++ r) s := S.perm (h1.symm.cons _)
  refine (S1.updMany (l' := [(L, NsO m), (d, P')]) rfl (fun c oc hc e => ?_) (fun p hp => ?_) tk).perm (h2.cons _)
  · have hc' : c ≠ L ∧ c ≠ d := by simpa using hc
    have hm := mem_allObjs.mpr ⟨e, hc'.1⟩
    rw [hsp] at hm
    rcases List.mem_append.mp hm with hm | hm
    · exact (N' _ (List.mem_append_left _ hm)).1
    · rcases List.mem_cons.mp hm with hm | hm
      · exact absurd (congrArg Prod.fst hm) hc'.2
      · exact (N' _ (List.mem_append_right _ (.tail _ hm))).1
  · simp only [List.mem_cons, List.not_mem_nil, or_false] at hp
    rcases hp with rfl | rfl
    · exact of_ns Fr'.ns
    · exact ⟨o', (N' _ (List.mem_append_right _ (.head _))).1, hP⟩
theorem Upd.ne {L d : Addr} {Q : Obj → Prop} (S : St B F ((L, Q) :: own) s) (u : Upd own d P P' own') : d ≠ L := by
  obtain ⟨r, h1, _⟩ := u.perm
  have nd := (List.nodup_cons.mp S.nd).1
  rintro rfl
  exact nd (List.mem_map.mpr ⟨(d, P), h1.symm.mem_iff.mp (.head _), rfl⟩)

theorem r_getA {x dx C : Addr} {l : List (Str × Value)} {name : Str} {v : Value} {expr : Bool} {Q : Value → Shared → Prop} (S : St B F own s) (hB : Bs w F) (hx : F.get? x = some (instObj C dx)) (hat : ∃ o, s.heap.get? dx = some o ∧ AttO l o)
    (hv : getP name l = some v) (hg : plainGet (topK w.params) C name = true) (hh : hasDictIn (topK w.params) C = true) (ha : findIn (topK w.params) (.ref C) name = some none) (hvv : handedIn v = true)
    (h : ∀ s', St B F own s' → Q v s') : wpAny (model pg w) A (getAttr (.ref x) name expr) Q E s := by
  obtain ⟨o, e, es, n, rfl, hes⟩ := hat
  exact get_value (hB.K.keeps S.fz) (ox := instObj C dx) (od := some (dictOf es n)) ⟨S.fz _ _ hx, rfl, rfl, e⟩ (plainGet_of hg).1 (findObj_own hh ha rfl (by rw [lookIn_dict, att_get hes, hv])) hvv (h _ (S.tok _))

theorem r_setA {L x dx C : Addr} {l : List (Str × Value)} {name : Str} {v : Value} {Q : Unit → Shared → Prop} (S : St B F ((L, NsO m) :: own) s) (hB : Bs w F) (hx : F.get? x = some (instObj C dx)) (u : Upd own dx (AttO l) (AttO (putP name v l)) own')
    (hs : findIn (topK w.params) (.ref C) "__setattr__" = some (some (.builtin "object.__setattr__"))) (hp : plainOver (topK w.params) C = true) (ht : takerIn (topK w.params) C name = some none) (hh : (clsIn (topK w.params) C).any (·.hasDict) = true)
    (hz : (putP name v l).length ≤ 1000)
    (h : ∀ s', St B F ((L, NsO m) :: own') s' → Q () s') : wpAny (model pg w) A (setAttr (.ref x) name v) Q E s := by
  obtain ⟨o, e, es, n, rfl, hes⟩ := S.pop.at u
  obtain ⟨pre, post, hsp, h1, h2⟩ := all_split (L := L) e (Upd.ne S u)
  have X := hB.K.keeps S.fz
  have I : InstAt s.heap x (instObj C dx) C (some (dictOf es n)) := ⟨S.fz _ _ hx, rfl, rfl, e⟩
  refine set_plain X I hs (osa_dict (L := L) (h₀ := noHeap) (m := m) (pre := pre) (post := post) (s := { s with toks := s.toks + 1 }) (fr_no (ns_of S.head)) (hsp ▸ news_no) X I rfl hp ht hh (by rw [lookIn_dict, att_get hes]; rfl) h1 h2
    (putName_dict _ _ _ _ _ _) rfl (by rw [(att_put hes).length]; exact hz) fun h' F' N' => ?_)
  exact h _ (st_upd (S.tok _) u F' N' hsp ⟨_, _, rfl, att_put hes⟩)

/-! ### slots -/
noncomputable def SlO (C dx : Addr) (sl : List (Option Value)) (o : Obj) : Prop := o = { cls := .ref C, dict := some dx, data := .plain, slots := sl.toArray }
theorem r_getS {x dx C p : Addr} {sl : List (Option Value)} {i : Nat} {name : Str} {v : Value} {od : Obj} {expr : Bool} {Q : Value → Shared → Prop} (S : St B F own s) (hB : Bs w F) (hx : ∃ o, s.heap.get? x = some o ∧ SlO C dx sl o) (hdx : F.get? dx = some od)
    (ha : findIn (topK w.params) (.ref C) name = some (some (.ref p))) (hi : slotIn (topK w.params) p C = some i) (hv : (sl[i]?).join = some v) (hvv : handedIn v = true)
    (hg : plainGet (topK w.params) C name = true) (hc : (clsIn (topK w.params) C).isSome = true)
    (hn : specialIn (topK w.params) (.ref p) "__get__" = some (some (.builtin "member_descriptor.__get__"))) (ht : takesIn (topK w.params) (.ref p) = some true)
    (h : ∀ s', St B F own s' → Q v s') : wpAny (model pg w) A (getAttr (.ref x) name expr) Q E s := by
  obtain ⟨o, e, rfl⟩ := hx
  have X := hB.K.keeps S.fz
  have I : InstAt s.heap x { cls := .ref C, dict := some dx, data := .plain, slots := sl.toArray } C (some od) := ⟨e, rfl, rfl, S.fz _ _ hdx⟩
  exact get_bind X I (plainGet_of hg).1 (findObj_data hc ha hn ht) (plainGet_of hg).2
    (wpAny_call (slot_get (s := { s with toks := s.toks + 1 }) X I hi (by rw [List.getElem?_toArray]; exact hv) (handed_on hvv (h _ (S.tok _)))))

theorem r_setS {L x dx C p : Addr} {sl sl' : List (Option Value)} {i : Nat} {name : Str} {v : Value} {od : Obj} {Q : Unit → Shared → Prop} (S : St B F ((L, NsO m) :: own) s) (hB : Bs w F) (u : Upd own x (SlO C dx sl) (SlO C dx sl') own') (hdx : F.get? dx = some od)
    (ht : takerIn (topK w.params) C name = some (some (.ref p))) (hi : slotIn (topK w.params) p C = some i)
    (e' : (sl.toArray ++ Array.replicate (i + 1 - sl.toArray.size) none).setIfInBounds i (some v) = sl'.toArray) (hz : i < 1000)
    (hs : findIn (topK w.params) (.ref C) "__setattr__" = some (some (.builtin "object.__setattr__"))) (hp : plainOver (topK w.params) C = true) (hT : typeIn (topK w.params) (.ref p) = some (.type "member_descriptor"))
    (h : ∀ s', St B F ((L, NsO m) :: own') s' → Q () s') : wpAny (model pg w) A (setAttr (.ref x) name v) Q E s := by
  obtain ⟨o, e, rfl⟩ := S.pop.at u
  obtain ⟨pre, post, hsp, h1, h2⟩ := all_split (L := L) e (Upd.ne S u)
  have X := hB.K.keeps S.fz
  have I : InstAt s.heap x { cls := .ref C, dict := some dx, data := .plain, slots := sl.toArray } C (some od) := ⟨e, rfl, rfl, S.fz _ _ hdx⟩
  refine set_plain X I hs (osa_descr (s := { s with toks := s.toks + 1 }) KF.slot_mset X I hp ht hT
    (slot_set (s := { s with toks := s.toks + 1 }) (h₀ := noHeap) (L := L) (m := m) (pre := pre) (post := post) (fr_no (ns_of S.head)) (hsp ▸ news_no) X I hi hz h1 h2 rfl rfl fun h' F' N' => ?_))
  exact h _ (st_upd (S.tok _) u F' N' hsp (by rw [SlO]; rw [e']))

/-- a method of the class, looked up -/
theorem r_getM {x dx C f : Addr} {l : List (Str × Value)} {name : Str} {pl : Sem Bool} {Q : Value × List Value → Shared → Prop} (S : St B F own s) (hB : Bs w F) (hx : F.get? x = some (instObj C dx)) (hat : ∃ o, s.heap.get? dx = some o ∧ AttO l o)
    (hv : getP name l = none) (hg : plainGet (topK w.params) C name = true) (hf : findIn (topK w.params) (.ref C) name = some (some (.ref f))) (ht : typeIn (topK w.params) (.ref f) = some (.type "function"))
    (h : Q (.ref f, [.ref x]) s) : wpAny (model pg w) A (getMethod (.ref x) name pl) Q E s := by
  obtain ⟨o, e, es, n, rfl, hes⟩ := hat
  exact method_fn (hB.K.keeps S.fz) (ox := instObj C dx) (od := some (dictOf es n)) ⟨S.fz _ _ hx, rfl, rfl, e⟩ (plainGet_of hg).1 (plainGet_of hg).2 hf ht (by show (lookIn name (dictOf es n)).map _ = _; rw [lookIn_dict, att_get hes, hv]; rfl) h
end
end
end Mine
end
section
open PySem PySem.W PyProof.Rows PySem.Calls
set_option Elab.async false
set_option maxRecDepth 100000
set_option maxHeartbeats 4000000
namespace Mine
noncomputable section
section
variable {B : Shared} {F F' : Heap} {own own' : Own} {s : Shared} {w : World} {A : Around} {E : Value → Shared → Prop} {env : Env} {m : Str → Option Value} {P P' : Obj → Prop}
theorem c_enter {k : Nat} {a : Addr} {fd : FuncData} {body : List Stmt} {args : List Value} {binds : List (Str × Value)} {R : Result → Shared → Prop}
    (S : St B F own s) (hB : Bs w F) (hA : Rm (k + 1) A) (ho : (topK w.params).lookup a = some (fnObj fd)) (hcd : codeIn (topK w.params) fd.code fd.qualname = true) (hbody : fd.body = .stmts body)
    (hbind : ∀ Q' : List (Str × Value) → Shared → Prop, (∀ s', St B F own' s' → Q' binds s') → wpAny (model pg w) A.in1 (bindArgs fd ⟨args, []⟩) Q' (fun _ _ => False) s)
    (hcell : ∀ x ∈ fd.scope.names, x.2 ≠ .cell) (hloc : ∀ x ∈ binds, fd.scope.names.lookup x.1 = some .local)
    (h : ∀ L s', St B F ((L, NsO (fun x => binds.reverse.lookup x)) :: own') s' → Rm k (A.deeper (fenv fd L a)) →
      wpAny (model pg w) (A.deeper (fenv fd L a)) (execs body (fenv fd L a)) (fun f s'' => R (.ok (.ret (match f with | .ret v => v | _ => .none))) s'') (fun _ _ => False) s')
    (hco : fd.scope.isCoroutine = false := by rfl) (hgen : fd.scope.isGenerator = false := by rfl) (hk : fd.scope.kind = .function := by rfl) :
    codeAny (model pg w) A (.call (.ref a) ⟨args, []⟩) R s := by
  refine codeAny_call_function (fd := fd) hA.depth (S.fz _ _ (hB.K _ _ ho)) rfl hco hgen hbody ((codeRec_of hB.K hcd).keeps S.fz) ?_
  refine wpAny_mono (hbind _ fun s₁ S₁ => ?_) (fun _ _ x => x) (fun _ _ x => x.elim)
  refine wpAny_newFunctionEnv hcell hloc (fun h₁ hns hsb => ⟨(bs_nolimit (hB.sub S₁.fz)).fresh _ hsb, ?_⟩) hk
  refine codeAny_func ?_
  have S₂ : St B F ((s₁.heap.objs.size, NsO (fun x => binds.reverse.lookup x)) :: own') { s₁ with heap := h₁, toks := s₁.toks + binds.length } := by
    obtain ⟨o, e, q⟩ := of_ns hns
    exact (S₁.alloc (P := fun _ => True) (o := { cls := .type "frame", data := .dict #[] }) rfl trivial).upd (h' := h₁) hsb e q _
  exact wpAny_mono (h _ _ S₂ (hA.deeper _)) (fun _ _ x => x) (fun _ _ x => x.elim)

theorem Rm.make {k : Nat} (x : Rm (k + 1) A) (C : Addr) (vals : List Value) : Rm k (A.under (.builtin "type.__call__" ⟨.ref C :: vals, []⟩)) :=
  ⟨x.hd, by have := x.dp; show A.depth + 1 + k < _; omega, by have := x.un; show A.units + 1 + 10 * k < _; omega⟩

theorem r_make {C fI : Addr} {rest : List Value} {Q : Value → Shared → Prop} (S : St B F own s) (hB : Bs w F) (hm : makesIn (topK w.params) C = true)
    (hi : findIn (topK w.params) (.ref C) "__init__" = some (some (.ref fI))) (hf : typeIn (topK w.params) (.ref fI) = some (.type "function"))
    (h : ∀ x dx s', St B F ((x, SlO C dx []) :: (dx, AttO []) :: own) s' → codeAny (model pg w) (A.under (.builtin "type.__call__" ⟨.ref C :: rest, []⟩)) (.call (.ref fI) ⟨.ref x :: rest, []⟩)
      (fun r s'' => r = .ok (.ret .none) ∧ Q (.ref x) s'') s') : wpAny (model pg w) A (call (.ref C) rest) Q E s := by
  refine wpAny_call ?_
  have X := hB.K.keeps S.fz
  have S1 := S.alloc (P := AttO []) (o := emptyDict) rfl ⟨[], 0, rfl, .nil⟩
  have S2 := S1.alloc (P := SlO C s.heap.objs.size []) (o := instObj C s.heap.objs.size) rfl rfl
  obtain ⟨hh, g, d, t, os⟩ := s
  refine make_core (makes_of X hm) (looks_findIn X hi) (fun self => bind_fn X self hf) (.inl rfl) ?_
  refine codeAny_mono (h _ hh.objs.size _ (by simpa [Heap.size_push] using S2)) fun r s' z => ?_
  obtain ⟨rfl, z⟩ := z
  exact ⟨rfl, z⟩

/-! ### _NodeInfo(node) -/
end
noncomputable def fdNIS : {x : FuncData // fdAt P0 65 = x} := by
  refine' ⟨_, _⟩
  rotate_left
  conv => lhs; whnf
noncomputable def fdNI : FuncData := fdNIS.1
section
variable {B : Shared} {F F' : Heap} {own own' : Own} {s : Shared} {w : World} {A : Around} {E : Value → Shared → Prop} {env : Env} {m : Str → Option Value} {P P' : Obj → Prop}
theorem info_make {v : Value} {Q : Value → Shared → Prop} (S : St B F own s) (hB : Bs w F) (hA : Rm 2 A)
    (h : ∀ F' x dx od l t s', Sub F F' → F'.get? dx = some od → St B F' ((x, SlO 69 dx [some v, some (.int 0 t), some (.ref l)]) :: (l, ListO []) :: own) s' → Q (.ref x) s') :
    wpAny (model pg w) A (call (.ref 69) [v]) Q E s := by
  refine r_make (C := 69) (fI := 65) S hB (by rfl) (by rfl) (by rfl) fun x dx s₁ S₁ => ?_
  obtain ⟨F₂, hs₂, S₂, od, hdx, _⟩ := S₁.swap.freeze
  have hB₂ := hB.sub hs₂
  refine c_enter (k := 0) (fd := fdNI) (binds := [("self", .ref x), ("node", v)]) S₂ hB₂ (hA.make 69 [v]) rfl rfl rfl (fun Q' hQ => wpAny_pure (hQ _ S₂)) (by decide) (locs rfl) fun L s₃ S₃ hA₃ => ?_
  refine wpAny_execs_cons (plainObj_wpAny_Assign_Attribute (r_local S₃ rfl (r_local S₃ rfl (r_setS (sl' := [some v]) S₃ hB₂ .head hdx (by rfl) (by rfl) (by rfl) (by decide) (by rfl) (by rfl) (by rfl) fun s₄ S₄ => ?_))))
  refine wpAny_execs_cons (plainObj_wpAny_Assign_Attribute (r_int S₄ fun t s₅ S₅ => r_local S₅ rfl (r_setS (sl' := [some v, some (.int 0 t)]) S₅ hB₂ .head hdx (by rfl) (by rfl) (by rfl) (by decide) (by rfl) (by rfl) (by rfl) fun s₆ S₆ => ?_)))
  refine wpAny_execs_cons (plainObj_wpAny_Assign_Attribute (r_ListO (args_nil ⟨_, _, _, S₆, by simp, fun l s₇ S₇ => ?_⟩)))
  refine r_local S₇.swap rfl (r_setS (sl' := [some v, some (.int 0 t), some (.ref l)]) S₇.swap hB₂ (.tail .head) hdx (by rfl) (by rfl) (by rfl) (by decide) (by rfl) (by rfl) (by rfl) fun s₈ S₈ => ?_)
  exact wpAny_execs_nil ⟨rfl, h F₂ x dx od l t _ hs₂ hdx S₈.pop.swap⟩
end
end
end Mine
end
section
open PySem PySem.W PyProof.Rows PySem.Calls
set_option Elab.async false
set_option maxRecDepth 100000
set_option maxHeartbeats 4000000
namespace Mine
noncomputable section
/-! ## the sorter and its nodes -/
structure Nd where
  x : Addr
  l : Addr
  dx : Addr
  k : Nat
  tk : Tok
  np : Int
  tn : Tok
  su : List (Nat × Tok)
noncomputable def Nd.sl (n : Nd) : List (Option Value) := [some (.int n.k n.tk), some (.int n.np n.tn), some (.ref n.l)]
noncomputable def intsV (l : List (Nat × Tok)) : List Value := l.map fun p => .int p.1 p.2
noncomputable def ndOwn (ns : List Nd) : Own := ns.flatMap fun n => [(n.x, SlO 69 n.dx n.sl), (n.l, ListO (intsV n.su))]
noncomputable def ndKvs (ns : List Nd) : List (Int × Value) := ns.map fun n => ((n.k : Int), .ref n.x)
noncomputable def DicO (w : World) (kvs : List (Int × Value)) (o : Obj) : Prop := o.IsDictOf (intKind pg w) kvs
structure SX where
  x : Addr
  dx : Addr
  d : Addr
noncomputable abbrev sAtt (X : SX) (rv pv fv : Value) : List (Str × Value) := [("_node2info", .ref X.d), ("_ready_nodes", rv), ("_npassedout", pv), ("_nfinished", fv)]
structure SF (F : Heap) (X : SX) (ns : List Nd) : Prop where
  inst : F.get? X.x = some (instObj 166 X.dx)
  lo : (X.d == sysModules) = false
  dx : ∀ n ∈ ns, ∃ od, F.get? n.dx = some od
  few : ns.length ≤ 100
  nd : (ns.map (·.k)).Nodup
theorem SF.sub {F F' : Heap} {X : SX} {ns : List Nd} (h : SF F X ns) (k : Sub F F') : SF F' X ns :=
  ⟨k _ _ h.inst, h.lo, fun n hn => let ⟨od, e⟩ := h.dx n hn; ⟨od, k _ _ e⟩, h.few, h.nd⟩

theorem vat_none {ns : List Nd} {k : Nat} (h : ∀ n ∈ ns, n.k ≠ k) : valueAt (ndKvs ns) (k : Int) = none := by
  unfold valueAt ndKvs
  rw [List.find?_eq_none.mpr]; rfl
  intro kv hkv
  obtain ⟨n, hn, rfl⟩ := List.mem_map.mp hkv
  have := h n hn
  simp; omega
theorem vat_mem {ns : List Nd} {n : Nd} : (ns.map (·.k)).Nodup → n ∈ ns → valueAt (ndKvs ns) (n.k : Int) = some (.ref n.x) := by
  intro nd hn
  unfold valueAt ndKvs
  induction ns with
  | nil => cases hn
  | cons a ns ih =>
    rw [List.map_cons, List.find?_cons]
    rw [List.map_cons] at nd
    have nd' := List.nodup_cons.mp nd
    rcases List.mem_cons.mp hn with rfl | hn
    · simp
    · have hne : a.k ≠ n.k := fun e => nd'.1 (e ▸ List.mem_map_of_mem (f := (·.k)) hn)
      have : decide ((a.k : Int) = n.k) = false := by simp; omega
      simp only [this]
      exact ih nd'.2 hn
theorem stored_new {ns : List Nd} {k : Nat} {v : Value} (h : ∀ n ∈ ns, n.k ≠ k) : stored (ndKvs ns) (k : Int) v = ndKvs ns ++ [((k : Int), v)] := by
  unfold stored
  rw [if_neg]
  unfold ndKvs
  rw [List.any_map, List.any_eq_true]
  rintro ⟨n, hn, e⟩
  have := h n hn
  simp at e
  omega
section
variable {B : Shared} {F F' : Heap} {own own' : Own} {s : Shared} {w : World} {A : Around} {E : Value → Shared → Prop} {env : Env} {m : Str → Option Value} {P P' : Obj → Prop}
theorem St.rot2 {a b c : Addr × (Obj → Prop)} (S : St B F (a :: b :: c :: own) s) : St B F (c :: a :: b :: own) s :=
  S.perm ((List.Perm.swap _ _ _).trans ((List.Perm.swap _ _ _).cons _))
theorem dic_of {h : Heap} {d : Addr} {kvs : List (Int × Value)} (x : ∃ o, h.get? d = some o ∧ DicO w kvs o) : h.DictOf (intKind pg w) d kvs := Heap.dictOf_iff.mpr x

/-- x.f(..), f found in the class; the arguments as given -/
theorem r_CW {f : Addr} {first : List Value} {pos : Pos} {e : Expr} {rest : List Expr} {Q : Value → Shared → Prop} (hB : Bs w F) (hk : keepIn (topK w.params) (.ref f) = true)
    (h : wpAny (model pg w) A (spliced (backTo pos (starEach (e :: rest) env))) (fun vs s₁ => Bs w s₁.heap ∧ wpAny (model pg w) A (call (.ref f) (first ++ vs)) Q E s₁) E s)
    (he : starEach (e :: rest) env = (false, eval e env) :: starEach rest env := by rfl) (hplain : (backTo pos (starEach rest env)).any (·.1) = false := by rfl) :
    wpAny (model pg w) A (callWith pos (.ref f) first (backTo pos (starEach (e :: rest) env)) []) Q E s :=
  callWith_K hB.K hk (wpAny_mono h (fun _ _ x => ⟨x.1.K, x.2⟩) fun _ _ x => x) he hplain
theorem r_CWb {id : String} {first : List Value} {pos : Pos} {e : Expr} {rest : List Expr} {Q : Value → Shared → Prop}
    (h : wpAny (model pg w) A (spliced (backTo pos (starEach (e :: rest) env))) (fun vs s₁ => wpAny (model pg w) A (call (.builtin id) (first ++ vs)) Q E s₁) E s)
    (he : starEach (e :: rest) env = (false, eval e env) :: starEach rest env := by rfl) (hplain : (backTo pos (starEach rest env)).any (·.1) = false := by rfl) :
    wpAny (model pg w) A (callWith pos (.builtin id) first (backTo pos (starEach (e :: rest) env)) []) Q E s := by
  rw [he] at h ⊢
  exact callWith_builtin (by show (false || (backTo pos (starEach rest env)).any (·.1)) = false; rw [hplain]; rfl) (evalArgs_plain h)
theorem r_CWb0 {id : String} {first : List Value} {pos : Pos} {Q : Value → Shared → Prop}
    (h : wpAny (model pg w) A (call (.builtin id) (first ++ [])) Q E s) :
    wpAny (model pg w) A (callWith pos (.builtin id) first (backTo pos (starEach [] env)) []) Q E s :=
  callWith_builtin rfl (evalArgs_nil3 h)
end
noncomputable def fdGniS : {x : FuncData // fdAt P0 109 = x} := by
  refine' ⟨_, _⟩
  rotate_left
  conv => lhs; whnf
noncomputable def fdGni : FuncData := fdGniS.1
section
variable {B : Shared} {F F' : Heap} {own own' : Own} {s : Shared} {w : World} {A : Around} {E : Value → Shared → Prop} {env : Env} {m : Str → Option Value} {P P' : Obj → Prop}

theorem gni_spec {X : SX} {ns : List Nd} {rv pv fv : Value} {k : Nat} {t : Tok} {Q : Value → Shared → Prop} (S : St B F ((X.dx, AttO (sAtt X rv pv fv)) :: (X.d, DicO w (ndKvs ns)) :: (ndOwn ns ++ own)) s) (hB : Bs w F) (hA : Rm 4 A) (hS : SF F X ns) (h99 : ns.length < 100)
    (h : ∀ F' ns' n s', Sub F F' → SF F' X ns' → St B F' ((X.dx, AttO (sAtt X rv pv fv)) :: (X.d, DicO w (ndKvs ns')) :: (ndOwn ns' ++ own)) s' →
      n ∈ ns' → n.k = k → (ns' = ns ∨ ((∀ n ∈ ns, n.k ≠ k) ∧ ns' = ns ++ [n] ∧ n.np = 0 ∧ n.su = [])) → Q (.ref n.x) s') :
    wpAny (model pg w) A (call (.ref 109) [.ref X.x, .int k t]) Q E s := by
  refine r_enterP (k := 3) (fd := fdGni) S hB hA rfl rfl rfl rfl (by decide) (locs rfl) fun L s₁ S₁ hA₁ => ?_
  refine wpAny_execs_cons (wpAny_If (wpAny_isTrue_Compare1 (wpAny_NamedExpr (methodCall_KW (Attribute_any_ (r_local S₁ rfl (r_getA S₁ hB hS.inst (S₁.mem (.tail _ (.head _))) rfl (by rfl) (by rfl) (by rfl) rfl fun s₂ S₂ => ?_)))))))
  have hD := dic_of (S₂.mem (a := X.d) (P := DicO w (ndKvs ns)) (.tail _ (.tail _ (.head _))))
  refine getMethod_builtin hD.typeIs PySem.F.plainAttrs_dict PySem.F.slot_dict_get PySem.F.type_dict_get hD.mapOf.noDict ?_
  refine r_CWb (args_cons (r_local S₂ rfl (args_nil ?_)))
  by_cases hex : ∃ n ∈ ns, n.k = k
  · obtain ⟨n, hn, rfl⟩ := hex
    refine call_meetsIn PySem.F.slot_dict_get hD.typeIs PySem.F.entry_dict_get (PySem.F.args_dict_get_2 _ _) (meets_dict_get (intKind pg w) X.d (k := (n.k : Int)) (by simp [intKind, Value.isInt]) hS.lo) ⟨_, hD.mapOf, ?_⟩
    rw [vat_mem hS.nd hn]
    have S₃ := S₂.tok (s₂.toks + 1)
    refine wpAny_assign_Name (r_store S₃ fun s₄ S₄ => ?_)
    refine wpAny_Constant_none ?_
    refine is_none_ne (by simp) (wpAny_truthy_bool ?_)
    refine wpAny_execs_nil (wpAny_execs_cons (wpAny_Return_some (r_local S₄ rfl ?_)))
    exact h F ns n _ (Sub.refl _) hS S₄.pop hn rfl (.inl rfl)
  · have hno : ∀ n ∈ ns, n.k ≠ k := fun n hn e => hex ⟨n, hn, e⟩
    refine call_meetsIn PySem.F.slot_dict_get hD.typeIs PySem.F.entry_dict_get (PySem.F.args_dict_get_2 _ _) (meets_dict_get (intKind pg w) X.d (k := (k : Int)) (by simp [intKind, Value.isInt]) hS.lo) ⟨_, hD.mapOf, ?_⟩
    rw [vat_none hno]
    have S₃ := S₂.tok (s₂.toks + 1)
    refine wpAny_assign_Name (r_store S₃ fun s₄ S₄ => ?_)
    refine wpAny_Constant_none ?_
    refine is_none_none (wpAny_truthy_bool ?_)
    refine wpAny_execs_cons (wpAny_Assign_two (Call_ (r_global S₄ hB rfl (r_CW (hB.sub S₄.fz) (by rfl) (args_cons (r_local S₄ rfl (args_nil ⟨hB.sub S₄.fz, ?_⟩)))))))
    refine info_make S₄ hB (hA₁.le (by decide)) fun F₅ x dx od l t0 s₅ hs₅ hdx S₅ => ?_
    have hB₅ := hB.sub hs₅
    have hS₅ := hS.sub hs₅
    have S₆ := S₅.rot2
    refine kas_sub (Attribute_any_ (r_local S₆ rfl (r_getA S₆ hB₅ hS₅.inst (S₆.mem (.tail _ (.tail _ (.tail _ (.head _))))) rfl (by rfl) (by rfl) (by rfl) rfl fun s₇ S₇ => ?_)))
    refine r_local S₇ rfl ?_
    have hD₇ := dic_of (S₇.mem (a := X.d) (P := DicO w (ndKvs ns)) (.tail _ (.tail _ (.tail _ (.tail _ (.head _))))))
    refine wpAny_setItem_pairs (k := (k : Int)) (hsz := by unfold ndKvs; rw [List.length_map]; exact Nat.le_trans hS.few (by decide +kernel)) (by simp [intKind, Value.isInt]) hD₇ fun h' hmm hsb => ?_
    rw [stored_new hno] at hmm
    obtain ⟨o', ho', hd'⟩ := Heap.dictOf_iff.mp hmm
    have S₈ := S₇.updAt (.tail (.tail (.tail (.tail .head)))) hsb ho' (P' := DicO w (ndKvs ns ++ [((k : Int), Value.ref x)])) hd' (s₇.toks + 1)
    refine wpAny_assign_Name (r_store S₈ fun s₉ S₉ => ?_)
    refine wpAny_execs_nil (wpAny_execs_cons (wpAny_Return_some (r_local S₉ rfl ?_)))
    let n : Nd := ⟨x, l, dx, k, t, 0, t0, []⟩
    refine h F₅ (ns ++ [n]) n _ hs₅ ⟨hS₅.inst, hS₅.lo, ?_, ?_, ?_⟩ ?_ (by simp) rfl (.inr ⟨hno, rfl, rfl, rfl⟩)
    · intro a ha
      rcases List.mem_append.mp ha with ha | ha
      · exact hS₅.dx a ha
      · cases List.mem_singleton.mp ha; exact ⟨od, hdx⟩
    · rw [List.length_append]; simp; omega
    · rw [List.map_append, List.nodup_append]
      refine ⟨hS.nd, by simp, ?_⟩
      intro a ha b hb
      obtain ⟨c, hc, rfl⟩ := List.mem_map.mp ha
      simp at hb
      subst hb
      exact hno c hc
    · have e1 : ndKvs (ns ++ [n]) = ndKvs ns ++ [((k : Int), .ref x)] := by unfold ndKvs; rw [List.map_append]; rfl
      have e2 : ndOwn (ns ++ [n]) = ndOwn ns ++ [(x, SlO 69 dx [some (.int k t), some (.int 0 t0), some (.ref l)]), (l, ListO [])] := by unfold ndOwn; rw [List.flatMap_append]; rfl
      rw [e1, e2]
      refine S₉.pop.perm ?_
      have : ∀ (a b c d : Addr × (Obj → Prop)) (o1 o2 : Own), (a :: b :: (o1 ++ [c, d] ++ o2)).Perm (c :: d :: a :: b :: (o1 ++ o2)) := fun a b c d o1 o2 => by
        have h1 : (a :: b :: (o1 ++ [c, d] ++ o2)).Perm ([a, b] ++ ([c, d] ++ o1) ++ o2) := by
          have := ((List.perm_append_comm (l₁ := o1) (l₂ := [c, d])).append_right o2).append_left [a, b]
          simpa using this
        have h2 : ([a, b] ++ ([c, d] ++ o1) ++ o2).Perm ([c, d] ++ [a, b] ++ (o1 ++ o2)) := by
          have := (List.perm_append_comm (l₁ := [a, b]) (l₂ := [c, d])).append_right (o1 ++ o2)
          simpa using this
        exact h1.trans h2
      exact this _ _ _ _ _ _
end
end
end Mine
end
section
open PySem PySem.W PyProof.Rows PySem.Calls
set_option Elab.async false
set_option maxRecDepth 100000
set_option maxHeartbeats 4000000
namespace Mine
noncomputable section
noncomputable def fdAddS : {x : FuncData // fdAt P0 116 = x} := by
  refine' ⟨_, _⟩
  rotate_left
  conv => lhs; whnf
noncomputable def fdAdd : FuncData := fdAddS.1
theorem bind_add (x k : Value) (ps : List Value) : bindArgs fdAdd ⟨x :: k :: ps, []⟩ = (newTuple ps >>= fun T => pure [(Str.ofString "self", x), (Str.ofString "node", k), (Str.ofString "predecessors", T)]) := by
  cases ps <;> rfl
noncomputable def fld {α : Type} (f : Nd → α) (d : α) (ns : List Nd) (j : Nat) : α := ((ns.find? fun n => decide (n.k = j)).map f).getD d
theorem fld_nil {α : Type} (f : Nd → α) (d : α) (j : Nat) : fld f d [] j = d := rfl
theorem fld_cons {α : Type} (f : Nd → α) (d : α) (n : Nd) (ns : List Nd) (j : Nat) : fld f d (n :: ns) j = if n.k = j then f n else fld f d ns j := by
  unfold fld
  rw [List.find?_cons]
  by_cases h : n.k = j
  · rw [if_pos h]; simp [h]
  · rw [if_neg h]; simp [h]
theorem fld_mem {α : Type} {f : Nd → α} {d : α} {n : Nd} : ∀ {ns : List Nd}, (ns.map (·.k)).Nodup → n ∈ ns → fld f d ns n.k = f n
  | a :: ns, nd, hn => by
    rw [fld_cons]
    rw [List.map_cons] at nd
    have nd' := List.nodup_cons.mp nd
    rcases List.mem_cons.mp hn with rfl | hn
    · rw [if_pos rfl]
    · rw [if_neg (fun e : a.k = n.k => nd'.1 (e ▸ List.mem_map_of_mem (f := (·.k)) hn)), fld_mem nd'.2 hn]
theorem fld_new {α : Type} {f : Nd → α} {d : α} {n : Nd} (hf : f n = d) : ∀ {ns : List Nd} {j : Nat}, fld f d (ns ++ [n]) j = fld f d ns j
  | [], j => by rw [List.nil_append, fld_cons, fld_nil]; split <;> simp [hf]
  | a :: ns, j => by rw [List.cons_append, fld_cons, fld_cons, fld_new hf]
theorem fld_set {α : Type} {f : Nd → α} {d : α} {n n' : Nd} (hk : n'.k = n.k) {post : List Nd} {j : Nat} : ∀ {pre : List Nd}, (∀ a ∈ pre, a.k ≠ n.k) → fld f d (pre ++ n' :: post) j = if j = n.k then f n' else fld f d (pre ++ n :: post) j
  | [], _ => by
    rw [List.nil_append, List.nil_append, fld_cons, fld_cons, hk]
    by_cases h : n.k = j
    · rw [if_pos h, if_pos h.symm]
    · rw [if_neg h, if_neg (fun e => h e.symm), if_neg h]
  | a :: pre, h => by
    rw [List.cons_append, List.cons_append, fld_cons, fld_cons, fld_set hk fun b hb => h b (.tail _ hb)]
    by_cases q : a.k = j
    · rw [if_pos q, if_pos q, if_neg]
      intro e; exact h a (.head _) (q.trans e)
    · rw [if_neg q, if_neg q]
noncomputable def has (ns : List Nd) (j : Nat) : Prop := ∃ n ∈ ns, n.k = j
noncomputable abbrev npOf (ns : List Nd) (j : Nat) : Int := fld (·.np) 0 ns j
noncomputable abbrev suOf (ns : List Nd) (j : Nat) : List Nat := fld (fun n => n.su.map (·.1)) [] ns j
theorem Upd.app {own own' : Own} {a : Addr} {P P' : Obj → Prop} (u : Upd own a P P' own') : ∀ l : Own, Upd (l ++ own) a P P' (l ++ own')
  | [] => u
  | _ :: l => .tail (Upd.app u l)
theorem ndOwn_at (pre post : List Nd) (n : Nd) : ndOwn (pre ++ n :: post) = ndOwn pre ++ ((n.x, SlO 69 n.dx n.sl) :: (n.l, ListO (intsV n.su)) :: ndOwn post) := by
  unfold ndOwn
  rw [List.flatMap_append, List.flatMap_cons]
  rfl
theorem upd_np {pre post : List Nd} {n : Nd} {own : Own} (i : Int) (t : Tok) :
    Upd (ndOwn (pre ++ n :: post) ++ own) n.x (SlO 69 n.dx n.sl) (SlO 69 n.dx [some (.int n.k n.tk), some (.int i t), some (.ref n.l)]) (ndOwn (pre ++ { n with np := i, tn := t } :: post) ++ own) := by
  rw [ndOwn_at, ndOwn_at, List.append_assoc, List.append_assoc]
  exact Upd.app .head _
theorem upd_su {pre post : List Nd} {n : Nd} {own : Own} (su : List (Nat × Tok)) :
    Upd (ndOwn (pre ++ n :: post) ++ own) n.l (ListO (intsV n.su)) (ListO (intsV su)) (ndOwn (pre ++ { n with su := su } :: post) ++ own) := by
  rw [ndOwn_at, ndOwn_at, List.append_assoc, List.append_assoc]
  exact Upd.app (.tail .head) _
theorem SF.set {F : Heap} {X : SX} {pre post : List Nd} {n n' : Nd} (h : SF F X (pre ++ n :: post)) (hk : n'.k = n.k) (hd : n'.dx = n.dx) : SF F X (pre ++ n' :: post) := by
  refine ⟨h.inst, h.lo, ?_, ?_, ?_⟩
  · intro a ha
    rcases List.mem_append.mp ha with ha | ha
    · exact h.dx a (List.mem_append_left _ ha)
    · rcases List.mem_cons.mp ha with rfl | ha
      · rw [hd]; exact h.dx n (List.mem_append_right _ (.head _))
      · exact h.dx a (List.mem_append_right _ (.tail _ ha))
  · have := h.few
    rw [List.length_append, List.length_cons] at this ⊢
    exact this
  · have := h.nd
    rw [List.map_append, List.map_cons] at this ⊢
    rw [hk]; exact this
theorem kvs_set {pre post : List Nd} {n n' : Nd} (hk : n'.k = n.k) (hx : n'.x = n.x) : ndKvs (pre ++ n' :: post) = ndKvs (pre ++ n :: post) := by
  unfold ndKvs
  rw [List.map_append, List.map_cons, List.map_append, List.map_cons, hk, hx]
theorem has_set {pre post : List Nd} {n n' : Nd} (hk : n'.k = n.k) (j : Nat) : has (pre ++ n' :: post) j ↔ has (pre ++ n :: post) j := by
  unfold has
  simp only [List.mem_append, List.mem_cons]
  constructor
  · rintro ⟨a, ha | rfl | ha, e⟩
    · exact ⟨a, .inl ha, e⟩
    · exact ⟨n, .inr (.inl rfl), hk ▸ e⟩
    · exact ⟨a, .inr (.inr ha), e⟩
  · rintro ⟨a, ha | rfl | ha, e⟩
    · exact ⟨a, .inl ha, e⟩
    · exact ⟨n', .inr (.inl rfl), hk.trans e⟩
    · exact ⟨a, .inr (.inr ha), e⟩
theorem nd_pre {pre post : List Nd} {n : Nd} (h : ((pre ++ n :: post).map (·.k)).Nodup) : ∀ a ∈ pre, a.k ≠ n.k := by
  rw [List.map_append, List.map_cons, List.nodup_append] at h
  intro a ha
  exact h.2.2 _ (List.mem_map_of_mem ha) _ (.head _)
section
variable {B : Shared} {F F' : Heap} {own own' : Own} {s : Shared} {w : World} {A : Around} {E : Value → Shared → Prop} {env : Env} {m : Str → Option Value} {P P' : Obj → Prop}
/-! ### for over a tuple -/
noncomputable def TIterO (t : Addr) (i : Nat) (o : Obj) : Prop := o.cls = .type "tuple_iterator" ∧ o.data = .fields #[.ref t, .int i 0]
theorem isT_sub {F F' : Heap} {l : Addr} {xs : Array Value} (x : F.IsTuple l xs) (k : Sub F F') : F'.IsTuple l xs := let ⟨o, e, r⟩ := x; ⟨o, k _ _ e, r⟩
theorem floopT {target : Expr} {body : List Stmt} {l it : Addr} {vs : List Value} {R : Result → Shared → Prop} (hh : A.handled = none)
    (I : Nat → Heap → (Str → Option Value) → Own → Prop)
    (hl : ∀ i F₁ m₁ own₁ s₁, I i F₁ m₁ own₁ → St B F₁ ((env.locals, NsO m₁) :: (it, TIterO l i) :: own₁) s₁ → s₁.heap.IsTuple l vs.toArray)
    (turn : ∀ i v F₁ m₁ own₁ s₁, vs[i]? = some v → I i F₁ m₁ own₁ → St B F₁ ((env.locals, NsO m₁) :: (it, TIterO l (i + 1)) :: own₁) s₁ →
      wpAny (model pg w) A (assign target env v) (fun _ s₂ => wpAny (model pg w) A (execs body env) (fun f s₃ => match f with
        | .next | .cont => ∃ F₂ m₂ own₂, I (i + 1) F₂ m₂ own₂ ∧ St B F₂ ((env.locals, NsO m₂) :: (it, TIterO l (i + 1)) :: own₂) s₃
        | .brk => R (.ok .next) s₃
        | .ret v => R (.ok (.ret v)) s₃) (fun _ _ => False) s₂) (fun _ _ => False) s₁)
    (fin : ∀ F₁ m₁ own₁ s₁, I vs.length F₁ m₁ own₁ → St B F₁ ((env.locals, NsO m₁) :: own₁) s₁ → R (.ok .next) s₁)
    {i₀ : Nat} (S : St B F ((env.locals, NsO m) :: (it, TIterO l i₀) :: own) s) (h0 : I i₀ F m own) (hi : i₀ ≤ vs.length) :
    codeAny (model pg w) A (.forLoop target (.ref it) body [] env) R s := by
  refine codeAny_forLoop_any (fun n s' => ∃ i F₁ m₁ own₁, I i F₁ m₁ own₁ ∧ St B F₁ ((env.locals, NsO m₁) :: (it, TIterO l i) :: own₁) s' ∧ i ≤ vs.length ∧ n = vs.length + 1 - i) ?_ (vs.length + 1 - i₀) ⟨i₀, F, m, own, h0, S, hi, rfl⟩
  intro n s' hOb1
  obtain ⟨i, F₁, m₁, own₁, hI, S', hi', rfl⟩ := hOb1
  have hL := hl _ _ _ _ _ hI S'
  have hit : s'.heap.IsTupleIter it l i := by obtain ⟨o, e, q⟩ := S'.swap.head; exact ⟨o, e, q.1, q.2⟩
  cases hv : vs[i]? with
  | none =>
    have hsz : i = vs.length := Nat.le_antisymm hi' (by simpa using hv)
    subst hsz
    refine wpAny_pyNext_tuple_end hh hit hL (by simpa using hv) fun h₁ he₁ => wpAny_execs_nil ?_
    exact fin _ _ _ _ hI (S'.swap.updExt he₁ s'.toks)
  | some v =>
    have hlt : i < vs.length := (List.getElem?_eq_some_iff.mp hv).1
    refine wpAny_pyNext_tuple_item hit hL (by simpa using hv) fun h₁ hit₁ hs₁ => ?_
    obtain ⟨o₁, e₁, q₁⟩ := hit₁
    have S₁ := (S'.swap.upd (P' := TIterO l (i + 1)) hs₁ e₁ q₁ s'.toks).swap
    refine letGo_iter (n := "tuple_iterator") e₁ q₁.1 (by decide) ?_
    refine wpAny_mono (turn i v F₁ m₁ own₁ _ hv hI S₁) (fun _ s₂ h₂ => ?_) (fun _ _ x => x.elim)
    refine wpAny_mono h₂ (fun f s₃ h₃ => ?_) (fun _ _ x => x.elim)
    cases f with
    | next => obtain ⟨F₂, m₂, own₂, a, b⟩ := h₃; exact ⟨vs.length + 1 - (i + 1), by omega, i + 1, F₂, m₂, own₂, a, b, hlt, rfl⟩
    | cont => obtain ⟨F₂, m₂, own₂, a, b⟩ := h₃; exact ⟨vs.length + 1 - (i + 1), by omega, i + 1, F₂, m₂, own₂, a, b, hlt, rfl⟩
    | brk => exact h₃
    | ret v => exact h₃
theorem r_loopT {target : Expr} {body : List Stmt} {l : Addr} {vs : List Value} {Q : Flow → Shared → Prop} (hh : A.handled = none)
    (I : Nat → Heap → (Str → Option Value) → Own → Prop) (S : St B F ((env.locals, NsO m) :: own) s) (hL : F.IsTuple l vs.toArray) (h0 : I 0 F m own)
    (hl : ∀ i F₁ m₁ own₁, I i F₁ m₁ own₁ → Sub F F₁)
    (turn : ∀ it i v F₁ m₁ own₁ s₁, vs[i]? = some v → I i F₁ m₁ own₁ → St B F₁ ((env.locals, NsO m₁) :: (it, TIterO l (i + 1)) :: own₁) s₁ →
      wpAny (model pg w) A (assign target env v) (fun _ s₂ => wpAny (model pg w) A (execs body env) (fun f s₃ => match f with
        | .next | .cont => ∃ F₂ m₂ own₂, I (i + 1) F₂ m₂ own₂ ∧ St B F₂ ((env.locals, NsO m₂) :: (it, TIterO l (i + 1)) :: own₂) s₃
        | .brk => Q .next s₃
        | .ret v => Q (.ret v) s₃) (fun _ _ => False) s₂) (fun _ _ => False) s₁)
    (fin : ∀ F₁ m₁ own₁ s₁, I vs.length F₁ m₁ own₁ → St B F₁ ((env.locals, NsO m₁) :: own₁) s₁ → Q .next s₁) :
    wpAny (model pg w) A (pyIter (.ref l)) (fun it s₂ => codeAny (model pg w) A (.forLoop target it body [] env) (fun r s' => match r with | .ok f => Q f s' | .error e => cameBackBy (model pg w) A env E e s') s₂) E s := by
  refine wpAny_pyIter_tuple (isT_sub hL S.fz) ?_
  have S₁ := (S.alloc (P := TIterO l 0) (o := { cls := .type "tuple_iterator", data := .fields #[.ref l, .int 0 0] }) rfl ⟨rfl, rfl⟩).swap
  exact floopT hh I (fun i F₁ m₁ own₁ s₁ a b => isT_sub hL ((hl _ _ _ _ a).trans b.fz)) (fun i v F₁ m₁ own₁ s₁ a b c => turn _ i v F₁ m₁ own₁ s₁ a b c) fin S₁ h0 (Nat.zero_le _)
end
end
end Mine
end
section
open PySem PySem.W PyProof.Rows PySem.Calls
set_option Elab.async false
set_option maxRecDepth 100000
set_option maxHeartbeats 4000000
namespace Mine
noncomputable section
theorem mem_ndX {ns : List Nd} {n : Nd} (h : n ∈ ns) : (n.x, SlO 69 n.dx n.sl) ∈ ndOwn ns := List.mem_flatMap.mpr ⟨n, h, .head _⟩
theorem mem_ndL {ns : List Nd} {n : Nd} (h : n ∈ ns) : (n.l, ListO (intsV n.su)) ∈ ndOwn ns := List.mem_flatMap.mpr ⟨n, h, .tail _ (.head _)⟩
theorem intsV_snoc (l : List (Nat × Tok)) (k : Nat) (t : Tok) : intsV (l ++ [(k, t)]) = intsV l ++ [.int k t] := by unfold intsV; rw [List.map_append]; rfl
noncomputable abbrev sOwn (w : World) (X : SX) (ns : List Nd) (rv pv fv : Value) (own : Own) : Own := (X.dx, AttO (sAtt X rv pv fv)) :: (X.d, DicO w (ndKvs ns)) :: (ndOwn ns ++ own)
section
variable {B : Shared} {F F' : Heap} {own own' : Own} {s : Shared} {w : World} {A : Around} {E : Value → Shared → Prop} {env : Env} {m : Str → Option Value} {P P' : Obj → Prop}
theorem St.inn {X : SX} {ns : List Nd} {rv pv fv : Value} (pre : Own) (S : St B F (pre ++ sOwn w X ns rv pv fv own) s) : St B F (sOwn w X ns rv pv fv (pre ++ own)) s := by
  refine S.perm ?_
  have h := (List.perm_append_comm (l₁ := (X.dx, AttO (sAtt X rv pv fv)) :: (X.d, DicO w (ndKvs ns)) :: ndOwn ns) (l₂ := pre)).append_right own
  simpa using h
theorem St.out {X : SX} {ns : List Nd} {rv pv fv : Value} (pre : Own) (S : St B F (sOwn w X ns rv pv fv (pre ++ own)) s) : St B F (pre ++ sOwn w X ns rv pv fv own) s := by
  refine S.perm ?_
  have h := (List.perm_append_comm (l₁ := pre) (l₂ := (X.dx, AttO (sAtt X rv pv fv)) :: (X.d, DicO w (ndKvs ns)) :: ndOwn ns)).append_right own
  simpa using h

theorem add_code {X : SX} {ns : List Nd} {pv fv : Value} {k : Nat} {t : Tok} {ps : List (Nat × Tok)} {R : Result → Shared → Prop} (S : St B F (sOwn w X ns .none pv fv own) s) (hB : Bs w F) (hA : Rm 6 A) (hS : SF F X ns)
    (hfew : ns.length + ps.length + 1 < 100) (hsu : ∀ j, (suOf ns j).length ≤ 1000)
    (h : ∀ F' ns' s', Sub F F' → SF F' X ns' → St B F' (sOwn w X ns' .none pv fv own) s' → (∀ j, npOf ns' j = npOf ns j + if j = k then (ps.length : Int) else 0) →
      (∀ j, suOf ns' j = suOf ns j ++ (ps.filter fun p => decide (p.1 = j)).map fun _ => k) → (∀ j, has ns' j ↔ has ns j ∨ j = k ∨ j ∈ ps.map (·.1)) → ns'.length ≤ ns.length + 1 + ps.length → R (.ok (.ret .none)) s') :
    codeAny (model pg w) A (.call (.ref 116) ⟨.ref X.x :: .int k t :: intsV ps, []⟩) R s := by
  have hpl : (intsV ps).length = ps.length := by unfold intsV; rw [List.length_map]
  refine c_enter (k := 5) (fd := fdAdd) (binds := [(Str.ofString "self", .ref X.x), (Str.ofString "node", .int k t), (Str.ofString "predecessors", .ref s.heap.objs.size)])
    (own' := (s.heap.objs.size, fun o => o = { cls := .type "tuple", data := .seq (intsV ps).toArray }) :: sOwn w X ns .none pv fv own) S hB hA rfl rfl rfl
    (fun Q' hQ => by
      rw [bind_add]
      exact wpAny_bind (wpAny_newTuple (wpAny_pure (hQ _ (S.alloc rfl rfl))) (by rw [hpl]; exact Nat.le_trans (by omega : ps.length ≤ 100) (by decide +kernel)))) (by decide) (locs rfl) fun L s₁ S₁ hA₁ => ?_
  generalize s.heap.objs.size = T at S₁ ⊢
  obtain ⟨F₁, hs₁, S₁, oT, hT', rfl⟩ := S₁.swap.freeze
  have hT : F₁.IsTuple T (intsV ps).toArray := ⟨_, hT', rfl, 0, rfl⟩
  obtain ⟨m₁, S1, hm1, hm2, hm3⟩ : ∃ m₁ : Str → Option Value, St B F₁ ((L, NsO m₁) :: sOwn w X ns .none pv fv own) s₁ ∧ m₁ "self" = some (.ref X.x) ∧ m₁ "node" = some (.int k t) ∧ m₁ "predecessors" = some (.ref T) := ⟨_, S₁, rfl, rfl, rfl⟩
  clear S₁
  have hB₁ := hB.sub hs₁
  have hS₁ := hS.sub hs₁
  refine wpAny_execs_cons (wpAny_If (wpAny_isTrue_Compare1 (Attribute_any_ (r_local (env := fenv fdAdd L 116) S1 hm1 (r_getA S1 hB₁ hS₁.inst (S1.mem (.tail _ (.head _))) rfl (by rfl) (by rfl) (by rfl) rfl fun s₂ S₂ => ?_)))))
  refine wpAny_Constant_none (isnot_none_none (wpAny_truthy_bool ?_))
  refine wpAny_execs_nil ?_
  -- nodeinfo = self._get_nodeinfo(node)
  refine wpAny_execs_cons (wpAny_Assign_Name (methodCall_KW (r_local (env := fenv fdAdd L 116) S₂ hm1 (r_getM S₂ hB₁ hS₁.inst (S₂.mem (.tail _ (.head _))) rfl (by rfl) (by rfl) (by rfl) ?_))))
  refine r_CW (hB₁.sub S₂.fz) (by rfl) (args_cons (r_local (env := fenv fdAdd L 116) S₂ hm2 (args_nil ⟨hB₁.sub S₂.fz, ?_⟩)))
  refine gni_spec (St.inn [(L, NsO m₁)] S₂) hB₁ (hA₁.le (by decide)) hS₁ (by omega) fun F₂ ns₂ n s₃ hs₂ hS₂ S₃ hn hk hcase => ?_
  have S₃ := St.out [(L, NsO m₁)] S₃
  have hB₂ := hB₁.sub hs₂
  refine r_store (env := fenv fdAdd L 116) S₃ fun s₄ S₄ => ?_
  obtain ⟨m₄, S4, hn1, hn2, hn3, hn4⟩ : ∃ m₄ : Str → Option Value, St B F₂ ((L, NsO m₄) :: sOwn w X ns₂ .none pv fv own) s₄ ∧ m₄ "self" = some (.ref X.x) ∧ m₄ "node" = some (.int k t) ∧ m₄ "predecessors" = some (.ref T) ∧ m₄ "nodeinfo" = some (.ref n.x) := ⟨_, S₄, hm1, hm2, hm3, rfl⟩
  clear S₄
  -- nodeinfo.npredecessors += len(predecessors)
  obtain ⟨odn, hodn⟩ := hS₂.dx n hn
  obtain ⟨pre, post, rfl⟩ := List.append_of_mem hn
  refine wpAny_execs_cons (wpAny_AugAssign_AttributeAny (r_local (env := fenv fdAdd L 116) S4 hn4 (r_getS S4 hB₂ (S4.mem (.tail _ (.tail _ (.tail _ (List.mem_append_left _ (mem_ndX hn)))))) hodn (by rfl) (by rfl) (v := .int n.np n.tn) (by rfl) (by rfl) (by rfl) (by rfl) (by rfl) (by rfl) fun s₅ S₅ => ?_)))
  refine r_CallB S₅ hB₂ rfl (by boot_fast) (by decide) (args_cons (r_local (env := fenv fdAdd L 116) S₅ hn3 (args_nil ?_)))
  have hT₅ : IsTup s₅.heap T (intsV ps).toArray := isT_sub hT (hs₂.trans S₅.fz)
  refine len_tuple hT₅ (by rw [List.size_toArray, hpl]; omega) ?_
  have S₅ := S₅.tok (s₅.toks + 1 + 1)
  refine iadd_int ?_
  have S₅ := S₅.tok (s₅.toks + 1 + 1 + 1)
  rw [List.size_toArray, hpl]
  refine r_setS S₅ hB₂ (.tail (.tail (upd_np (n.np + (ps.length : Int)) (s₅.toks + 1 + 1)))) hodn (by rfl) (by rfl) (by rfl) (by decide) (by rfl) (by rfl) (by rfl) fun s₆ S₆ => ?_
  rw [← kvs_set (pre := pre) (post := post) (n := n) (n' := { n with np := n.np + (ps.length : Int), tn := s₅.toks + 1 + 1 }) rfl rfl] at S₆
  have hS₆ : SF F₂ X (pre ++ { n with np := n.np + (ps.length : Int), tn := s₅.toks + 1 + 1 } :: post) := hS₂.set rfl rfl
  have hpre := nd_pre hS₂.nd
  have c1 : ∀ j, npOf (pre ++ n :: post) j = npOf ns j ∧ suOf (pre ++ n :: post) j = suOf ns j ∧ (has (pre ++ n :: post) j ↔ has ns j ∨ j = k) := by
    intro j
    rcases hcase with e | ⟨hno, e, z1, z2⟩
    · rw [e]
      refine ⟨rfl, rfl, .inl, ?_⟩
      rintro (q | rfl)
      · exact q
      · exact ⟨n, e ▸ hn, hk⟩
    · rw [e]
      refine ⟨fld_new z1, fld_new (by rw [z2]; rfl), ?_⟩
      unfold has
      simp only [List.mem_append, List.mem_singleton]
      constructor
      · rintro ⟨a, ha | rfl, q⟩
        · exact .inl ⟨a, ha, q⟩
        · exact .inr (q.symm.trans hk)
      · rintro (⟨a, ha, q⟩ | rfl)
        · exact ⟨a, .inl ha, q⟩
        · exact ⟨n, .inr rfl, hk⟩
  have c2 : (pre ++ n :: post).length ≤ ns.length + 1 := by
    rcases hcase with e | ⟨hno, e, z1, z2⟩ <;> rw [e] <;> simp
  have c3 : n.np = npOf ns k := by
    rw [← (c1 k).1, ← hk]
    exact (fld_mem hS₂.nd hn).symm
  have c4 : n.su.map (·.1) = suOf ns k := by
    rw [← (c1 k).2.1, ← hk]
    exact (fld_mem (f := fun n : Nd => n.su.map (·.1)) hS₂.nd hn).symm
  have f1 : ∀ j, npOf (pre ++ { n with np := n.np + (ps.length : Int), tn := s₅.toks + 1 + 1 } :: post) j = npOf ns j + if j = k then (ps.length : Int) else 0 := by
    intro j
    rw [npOf, fld_set (n := n) (n' := { n with np := n.np + (ps.length : Int), tn := s₅.toks + 1 + 1 }) rfl hpre, hk]
    by_cases q : j = k
    · rw [if_pos q, if_pos q, q, ← c3]
    · rw [if_neg q, if_neg q, Int.add_zero]; exact (c1 j).1
  have f2 : ∀ j, suOf (pre ++ { n with np := n.np + (ps.length : Int), tn := s₅.toks + 1 + 1 } :: post) j = suOf ns j := by
    intro j
    rw [suOf, fld_set (n := n) (n' := { n with np := n.np + (ps.length : Int), tn := s₅.toks + 1 + 1 }) rfl hpre, hk]
    by_cases q : j = k
    · rw [if_pos q, q, ← c4]
    · rw [if_neg q]; exact (c1 j).2.1
  have f3 : ∀ j, has (pre ++ { n with np := n.np + (ps.length : Int), tn := s₅.toks + 1 + 1 } :: post) j ↔ has ns j ∨ j = k := fun j => (has_set (n := n) (n' := { n with np := n.np + (ps.length : Int), tn := s₅.toks + 1 + 1 }) rfl j).trans (c1 j).2.2
  have f4 : (pre ++ { n with np := n.np + (ps.length : Int), tn := s₅.toks + 1 + 1 } :: post).length ≤ ns.length + 1 := by
    rw [List.length_append, List.length_cons] at c2 ⊢; exact c2
  generalize (pre ++ { n with np := n.np + (ps.length : Int), tn := s₅.toks + 1 + 1 } :: post) = ns₆ at *
  refine wpAny_execs_cons (wpAny_For (r_local (env := fenv fdAdd L 116) S₆ hn3 ?_))
  refine r_loopT (l := T) (vs := intsV ps) hA₁.hd
    (fun i F₁ m₁ own₁ => ∃ ns₁, own₁ = sOwn w X ns₁ .none pv fv own ∧ Sub F₂ F₁ ∧ SF F₁ X ns₁ ∧ m₁ "self" = some (.ref X.x) ∧ m₁ "node" = some (.int k t) ∧ (∀ j, npOf ns₁ j = npOf ns j + if j = k then (ps.length : Int) else 0) ∧
      (∀ j, suOf ns₁ j = suOf ns j ++ ((ps.take i).filter fun p => decide (p.1 = j)).map fun _ => k) ∧ (∀ j, has ns₁ j ↔ has ns j ∨ j = k ∨ j ∈ (ps.take i).map (·.1)) ∧ ns₁.length ≤ ns.length + 1 + i)
    S₆ (isT_sub hT hs₂) ⟨ns₆, rfl, Sub.refl _, hS₆, hn1, hn2, f1, (fun j => by simp [f2]), (fun j => by simp [f3]), f4⟩ (fun i F₁ m₁ own₁ hI => by obtain ⟨_, _, hs, _⟩ := hI; exact hs) ?_ ?_
  · intro it i v F₃ m₃ own₃ s₇ hv hOb1 S₇
    refine gen_turn fun Q₁ E₁ E₁' hQ₁ => ?_
    obtain ⟨ns₁, rfl, hsub, hSn, hq1, hq2, g1, g2, g3, g4⟩ := hOb1
    have hlt : i < ps.length := by have := (List.getElem?_eq_some_iff.mp hv).1; omega
    obtain ⟨q, hq⟩ : ∃ q, ps[i]? = some q := ⟨_, List.getElem?_eq_getElem hlt⟩
    unfold intsV at hv
    rw [List.getElem?_map, hq] at hv
    cases hv
    have hB₃ := hB₂.sub hsub
    refine wpAny_assign_Name (r_store (env := fenv fdAdd L 116) S₇ fun s₈ S₈ => ?_)
    obtain ⟨m₈, S8, hq1, hq2, hq3⟩ : ∃ m₈ : Str → Option Value, St B F₃ ((L, NsO m₈) :: (it, TIterO T (i + 1)) :: sOwn w X ns₁ .none pv fv own) s₈ ∧ m₈ "self" = some (.ref X.x) ∧ m₈ "node" = some (.int k t) ∧ m₈ "pred" = some (.int q.1 q.2) := ⟨_, S₈, hq1, hq2, rfl⟩
    clear S₇ S₈
    refine wpAny_execs_cons (wpAny_Assign_Name (methodCall_KW (r_local (env := fenv fdAdd L 116) S8 hq1 (r_getM S8 hB₃ hSn.inst (S8.mem (.tail _ (.tail _ (.head _)))) rfl (by rfl) (by rfl) (by rfl) ?_))))
    refine r_CW (hB₃.sub S8.fz) (by rfl) (args_cons (r_local (env := fenv fdAdd L 116) S8 hq3 (args_nil ⟨hB₃.sub S8.fz, ?_⟩)))
    refine gni_spec (St.inn [(L, NsO m₈), (it, TIterO T (i + 1))] S8) hB₃ (hA₁.le (by decide)) hSn (by omega) fun F₄ ns₄ n s₉ hs₄ hS₄ S₉ hn hk' hcase => ?_
    have S₉ := St.out [(L, NsO m₈), (it, TIterO T (i + 1))] S₉
    have hB₄ := hB₃.sub hs₄
    refine r_store (env := fenv fdAdd L 116) S₉ fun s₁₀ S₁₀ => ?_
    obtain ⟨m₉, S9, hw1, hw2, hw3⟩ : ∃ m₉ : Str → Option Value, St B F₄ ((L, NsO m₉) :: (it, TIterO T (i + 1)) :: sOwn w X ns₄ .none pv fv own) s₁₀ ∧ m₉ "self" = some (.ref X.x) ∧ m₉ "node" = some (.int k t) ∧ m₉ "pred_info" = some (.ref n.x) := ⟨_, S₁₀, hq1, hq2, rfl⟩
    clear S₉ S₁₀
    obtain ⟨odn', hodn'⟩ := hS₄.dx n hn
    obtain ⟨pre', post', rfl⟩ := List.append_of_mem hn
    have hpre' := nd_pre hS₄.nd
    have d1 : ∀ j, npOf (pre' ++ n :: post') j = npOf ns₁ j ∧ suOf (pre' ++ n :: post') j = suOf ns₁ j ∧ (has (pre' ++ n :: post') j ↔ has ns₁ j ∨ j = q.1) := by
      intro j
      rcases hcase with e | ⟨hno, e, z1, z2⟩
      · rw [e]
        refine ⟨rfl, rfl, .inl, ?_⟩
        rintro (q | rfl)
        · exact q
        · exact ⟨n, e ▸ hn, hk'⟩
      · rw [e]
        refine ⟨fld_new z1, fld_new (by rw [z2]; rfl), ?_⟩
        unfold has
        simp only [List.mem_append, List.mem_singleton]
        constructor
        · rintro ⟨a, ha | rfl, q⟩
          · exact .inl ⟨a, ha, q⟩
          · exact .inr (q.symm.trans hk')
        · rintro (⟨a, ha, q⟩ | rfl)
          · exact ⟨a, .inl ha, q⟩
          · exact ⟨n, .inr rfl, hk'⟩
    have d2 : (pre' ++ n :: post').length ≤ ns₁.length + 1 := by
      rcases hcase with e | ⟨hno, e, z1, z2⟩ <;> rw [e] <;> simp
    have d4 : n.su.map (·.1) = suOf ns₁ q.1 := by
      rw [← (d1 q.1).2.1, ← hk']
      exact (fld_mem (f := fun n : Nd => n.su.map (·.1)) hS₄.nd hn).symm
    have hsl : n.su.length ≤ 1100 := by
      have e1 : n.su.length = (suOf ns₁ q.1).length := by rw [← d4, List.length_map]
      rw [e1, g2, List.length_append, List.length_map]
      have := hsu q.1
      have e2 := List.length_filter_le (fun p : Nat × Tok => decide (p.1 = q.1)) (ps.take i)
      have e3 := List.length_take_le i ps
      omega
    refine wpAny_execs_cons (r_append (Attribute_any_ (r_local (env := fenv fdAdd L 116) S9 hw3 (r_getS S9 hB₄ (S9.mem (.tail _ (.tail _ (.tail _ (.tail _ (List.mem_append_left _ (mem_ndX hn))))))) hodn' (by rfl) (by rfl) (v := .ref n.l) (by rfl) (by rfl) (by rfl) (by rfl) (by rfl) (by rfl) fun s₁₁ S₁₁ => ?_))))
    refine ⟨n.l, intsV n.su, rfl, S₁₁.mem (.tail _ (.tail _ (.tail _ (.tail _ (List.mem_append_left _ (mem_ndL hn)))))), r_local (env := fenv fdAdd L 116) S₁₁ hw2 ?_⟩
    refine ⟨B, F₄, _, _, _, S₁₁, .tail (.tail (.tail (.tail (intsV_snoc n.su k t ▸ upd_su (n.su ++ [(k, t)]))))), ?_, fun s₁₂ S₁₂ => ?_⟩
    · unfold intsV; rw [List.length_map]; exact Nat.le_trans hsl (by decide +kernel)
    rw [← kvs_set (pre := pre') (post := post') (n := n) (n' := { n with su := n.su ++ [(k, t)] }) rfl rfl] at S₁₂
    refine wpAny_execs_nil (hQ₁ _ _ ⟨F₄, _, _, ?_, S₁₂⟩)
    have htk : ps.take (i + 1) = ps.take i ++ [q] := by rw [List.take_add_one, hq]; rfl
    refine ⟨_, rfl, hsub.trans hs₄, hS₄.set rfl rfl, hw1, hw2, ?_, ?_, ?_, ?_⟩
    · intro j
      rw [npOf, fld_set (n := n) (n' := { n with su := n.su ++ [(k, t)] }) rfl hpre', ← g1 j]
      by_cases z : j = n.k
      · rw [if_pos z, z, ← (d1 n.k).1]
        exact (fld_mem (f := fun n : Nd => n.np) hS₄.nd hn).symm
      · rw [if_neg z]; exact (d1 j).1
    · intro j
      rw [suOf, fld_set (n := n) (n' := { n with su := n.su ++ [(k, t)] }) rfl hpre', htk, List.filter_append, List.map_append (l₁ := (ps.take i).filter fun p => decide (p.1 = j)), ← List.append_assoc, ← g2 j]
      by_cases z : j = n.k
      · rw [if_pos z]
        have z' : q.1 = j := hk'.symm.trans z.symm
        rw [← z', ← d4]
        simp
      · rw [if_neg z]
        have z' : ¬ q.1 = j := fun e => z (e.symm.trans hk'.symm)
        rw [List.filter_cons_of_neg (by simpa using z')]
        simp
        exact (d1 j).2.1
    · intro j
      rw [has_set (n := n) (n' := { n with su := n.su ++ [(k, t)] }) rfl j, (d1 j).2.2, g3 j, htk, List.map_append]
      simp only [List.mem_append, List.map_cons, List.map_nil, List.mem_singleton]
      constructor
      · rintro ((a | b | c) | d)
        · exact .inl a
        · exact .inr (.inl b)
        · exact .inr (.inr (.inl c))
        · exact .inr (.inr (.inr d))
      · rintro (a | b | c | d)
        · exact .inl (.inl a)
        · exact .inl (.inr (.inl b))
        · exact .inl (.inr (.inr c))
        · exact .inr d
    · rw [List.length_append, List.length_cons] at d2 ⊢
      show _ ≤ _
      omega
  · intro F₁ m₁ own₁ s₁ hOb2 S₁
    obtain ⟨ns₁, rfl, hsub, hSn, _, _, g1, g2, g3, g4⟩ := hOb2
    rw [hpl, List.take_length] at *
    exact wpAny_execs_nil (h F₁ ns₁ _ ((hs₁.trans hs₂).trans hsub) hSn S₁.pop g1 g2 g3 g4)
theorem add_spec {X : SX} {ns : List Nd} {pv fv : Value} {k : Nat} {t : Tok} {ps : List (Nat × Tok)} {Q : Value → Shared → Prop} (S : St B F (sOwn w X ns .none pv fv own) s) (hB : Bs w F) (hA : Rm 6 A) (hS : SF F X ns)
    (hfew : ns.length + ps.length + 1 < 100) (hsu : ∀ j, (suOf ns j).length ≤ 1000)
    (h : ∀ F' ns' s', Sub F F' → SF F' X ns' → St B F' (sOwn w X ns' .none pv fv own) s' → (∀ j, npOf ns' j = npOf ns j + if j = k then (ps.length : Int) else 0) →
      (∀ j, suOf ns' j = suOf ns j ++ (ps.filter fun p => decide (p.1 = j)).map fun _ => k) → (∀ j, has ns' j ↔ has ns j ∨ j = k ∨ j ∈ ps.map (·.1)) → ns'.length ≤ ns.length + 1 + ps.length → Q .none s') :
    wpAny (model pg w) A (call (.ref 116) (.ref X.x :: .int k t :: intsV ps)) Q E s :=
  wpAny_call (add_code S hB hA hS hfew hsu h)
end
end
end Mine
end
section
open PySem PySem.W PyProof.Rows PySem.Calls
set_option Elab.async false
set_option maxRecDepth 100000
set_option maxHeartbeats 4000000
namespace Mine
noncomputable section
/-! ## small rules for the run -/
section
variable {B : Shared} {F F' : Heap} {own own' : Own} {s : Shared} {w : World} {A : Around} {E : Value → Shared → Prop} {env : Env} {m : Str → Option Value}
theorem r_range3 {a b c : Int} {t u v : Tok} {Q : Value → Shared → Prop} (S : St B F own s) (hc : c ≠ 0) (hp : Builtin.divisionGoesByPylong (b - a) c = false)
    (h : ∀ F' r s', Sub F F' → St B F' own s' → IsRange F' r a b c t u v → Q (.ref r) s') :
    wpAny (model pg w) A (call (.type "range") [.int a t, .int b u, .int c v]) Q E s := by
  refine call_range_3 hc ?_ (.inl hp)
  obtain ⟨F', hs, S', e⟩ := S.allocF (o := { cls := .type "range", data := .fields #[.int a t, .int b u, .int c v] }) rfl
  exact h F' _ _ hs (S'.tok _) e
theorem r_neg {i : Int} {k : Nat} {pos pos' : Pos} {Q : Value → Shared → Prop} (S : St B F own s) (h : ∀ t s', St B F own s' → Q (.int (-i) t) s') :
    wpAny (model pg w) A (eval (.UnaryOp .USub (.Constant (.int i) k pos) pos') env) Q E s :=
  UnaryOp_ (wpAny_Constant_int (neg_int (h _ _ ((S.tok _).tok _))))
theorem r_mulL {l : Addr} {vs : List Value} {x : Int} {u : Tok} {Q : Value → Shared → Prop} (S : St B F own s) (hl : s.heap.IsList l vs.toArray) (h0 : 0 ≤ x) (hsz : vs.length * x.toNat ≤ 256) (hx : x ≤ 256)
    (h : ∀ D s', St B F ((D, ListO (List.replicate x.toNat vs).flatten) :: own) s' → Q (.ref D) s') : wpAny (model pg w) A (binaryOp .Mult (.ref l) (.int x u)) Q E s := by
  obtain ⟨⟨cls, d, data, sl⟩, ho, hcl, k, hd⟩ := id hl
  simp only at hcl hd
  subst hcl hd
  have hsz' : vs.toArray.size * x.toNat ≤ 256 := by simpa using hsz
  refine wpAny_binaryOp_repeat_ref (T := "list") (U := "int") (by decide) ⟨_, ho, rfl⟩ (fun s' => typeIs_int s' x u) noFill_list_mul PySem.F.fills_int_mul PySem.F.slot_int_rmul repeat_list PySem.F.slot_int_index.lookup
    (call_meets PySem.F.slot_int_rmul (typeIs_int s x u) PySem.F.entry_int_rmul (PySem.F.args_int_rmul_2 _ _) (lm_int_rmul_list_any x u l vs.toArray k d sl)
      ⟨ho, rfl, ⟨_, ho, rfl⟩, call_meets PySem.F.slot_list_mul ⟨_, ho, rfl⟩ PySem.F.entry_list_mul (PySem.F.args_list_mul_2 _ _)
        (lm_list_mul_any l vs.toArray k d sl x u (by simp [Builtin.List.listFitsIndex]; omega) (by omega) (by simp [Builtin.List.listTooLong, sizeLine]; omega))
        ⟨ho, ?_⟩⟩)
  rw [listMul_foldl_if]
  exact h _ _ (S.alloc rfl ⟨_, rfl⟩)
theorem r_extend {D T : Addr} {xs ys : List Value} {Q : Value → Shared → Prop} (S : St B F own s) (hT : F.get? T = some { cls := .type "tuple", data := .seq ys.toArray }) (u : Upd own D (ListO xs) (ListO (xs ++ ys)) own') (hx : xs.length ≤ 1000) (hy : ys.length ≤ 1000)
    (h : ∀ s', St B F own' s' → Q .none s') : wpAny (model pg w) A (call (.builtin "list.extend") [.ref D, .ref T]) Q E s := by
  obtain ⟨o, ho, n, rfl⟩ := S.at u
  have h1 : ¬(!xs.toArray.isEmpty && Builtin.List.listTooLong (xs.toArray.size + ys.toArray.size)) = true := by
    simp [Builtin.List.listTooLong]
    intro _
    have : 2000 ≤ sizeLine := by decide +kernel
    omega
  have h2 : xs.toArray.size ≤ sizeLine := by rw [List.size_toArray]; exact Nat.le_trans hx (by decide +kernel)
  have h3 : xs.toArray.size + ys.toArray.size ≤ sizeLine + 1 := by rw [List.size_toArray, List.size_toArray]; exact Nat.le_trans (Nat.add_le_add hx hy) (by decide +kernel)
  refine call_meets PySem.F.slot_list_extend ⟨_, ho, rfl⟩ PySem.F.entry_list_extend (PySem.F.args_list_extend_2 _ _) (PySem.AutoSeq1.list_extend_list_tuple_0 D xs.toArray n T ys.toArray 0 h1 h2 h3) ⟨ho, S.fz _ _ hT, h _ ?_⟩
  have q := PySem.IsL.update ho (fun x => x ++ ys.toArray)
  exact S.updAt u (Heap.SameBut.update ..) q ⟨_, by simp; rfl⟩ s.toks
theorem r_eqLen {l b : Addr} {xs ys : List Value} {Q : Value → Shared → Prop} (hu : A.units < cLine) (hl : s.heap.IsList l xs.toArray) (hb : s.heap.IsList b ys.toArray) (hne : xs.length ≠ ys.length) (h : Q (.bool false) s) :
    wpAny (model pg w) A (compareOp .Eq (.ref l) (.ref b)) Q E s :=
  PySem.SeqAt.eq_list_lengthsAt hl hb (by simpa using hne) hu h
theorem r_eqNil {l b : Addr} {Q : Value → Shared → Prop} (hu : A.units < cLine) (hl : s.heap.IsList l ([] : List Value).toArray) (hb : s.heap.IsList b ([] : List Value).toArray) (h : Q (.bool true) s) :
    wpAny (model pg w) A (compareOp .Eq (.ref l) (.ref b)) Q E s :=
  PySem.SeqAt.eq_listAt (e := fun _ => true) hl hb rfl hu (fun j h1 _ => absurd h1 (by simp)) (by simpa using h)
theorem r_eqInts {l b : Addr} {xs ys : List Value} {ns : List Int} {Q : Value → Shared → Prop} (hu : A.units < cLine) (hl : s.heap.IsList l xs.toArray) (hb : s.heap.IsList b ys.toArray) (hx : IntsAre xs ns) (hy : IntsAre ys ns) (h : Q (.bool true) s) :
    wpAny (model pg w) A (compareOp .Eq (.ref l) (.ref b)) Q E s := by
  refine PySem.SeqAt.eq_listAt (e := fun _ => true) hl hb (by rw [List.size_toArray, List.size_toArray, hx.length, hy.length]) hu (fun j h1 h2 => ?_) (by rw [List.all_eq_true.mpr (fun _ _ => rfl)]; exact h)
  have h3 : j < ns.length := by rw [← hx.length]; simpa using h1
  obtain ⟨t, e⟩ := hx.get _ _ (List.getElem?_eq_getElem h3)
  obtain ⟨u, e'⟩ := hy.get _ _ (List.getElem?_eq_getElem h3)
  have a1 : xs.toArray[j] = .int ns[j] t := by
    have := (List.getElem?_eq_some_iff.mp e).2
    simpa using this
  have a2 : ys.toArray[j] = .int ns[j] u := by
    have := (List.getElem?_eq_some_iff.mp e').2
    simpa using this
  rw [a1, a2]
  have := PySem.SeqAt.EqAt.int_int (A := A.in1) (s := s) ns[j] t ns[j] u
  simpa using this
theorem r_max2 {a b : Int} {t u : Tok} {Q : Value → Shared → Prop} (hh : A.handled = none) (S : St B F own s) (h : ∀ t s', St B F own s' → Q (.int (max a b) t) s') :
    wpAny (model pg w) A (call (.builtin "max") [.int a t, .int b u]) Q E s := by
  refine PySem.max_two_ints hh fun h' tk hk => ?_
  have S' := S.keeps (h' := h') hk tk
  by_cases q : b > a
  · rw [if_pos q]
    have := h u _ S'
    rwa [Int.max_eq_right (by omega)] at this
  · rw [if_neg q]
    have := h t _ S'
    rwa [Int.max_eq_left (by omega)] at this
theorem r_star {a : Addr} {xs : List Value} {Q : List Value → Shared → Prop} (S : St B F own s) (hl : s.heap.IsList a xs.toArray) (hz : xs.length ≤ sizeLine) (h : ∀ s', St B F own s' → Q xs s') : StarOf (model pg w) A E (.ref a) Q s := by
  obtain ⟨o, ho, hc, n, hd⟩ := hl
  have z : wpAny (model pg w) A (collect (.ref a)) Q E s :=
    wpAny_collect_seq a (.inl rfl) ho hc hd (fun h' hk => h _ (S.keeps (h' := h') hk s.toks)) (by rw [List.size_toArray]; exact hz)
  unfold StarOf notIterableAtAll
  exact wpAny_bind (wpAny_specialOf ⟨o, ho, hc⟩ PySem.F.slot_list_iter.lookup (wpAny_pure ⟨rfl, z⟩))
/-- a method got as a thing of its own -/
theorem r_getB {x dx C f : Addr} {l : List (Str × Value)} {name : Str} {expr : Bool} {Q : Value → Shared → Prop} (S : St B F own s) (hB : Bs w F) (hx : F.get? x = some (instObj C dx)) (hat : ∃ o, s.heap.get? dx = some o ∧ AttO l o)
    (hv : getP name l = none) (hg : plainGet (topK w.params) C name = true) (hh : hasDictIn (topK w.params) C = true) (ha : findIn (topK w.params) (.ref C) name = some (some (.ref f))) (hf : isFn (topK w.params) (.ref f) = true)
    (hgf : specialIn (topK w.params) (.ref f) "__get__" = some (some (.builtin "function.__get__"))) (ht : takesIn (topK w.params) (.ref f) = some false) (hc : copiedNames.contains name = false)
    (h : ∀ F' q s', Sub F F' → St B F' own s' → F'.get? q = some (methodObj (.ref f) (.ref x)) → Q (.ref q) s') : wpAny (model pg w) A (getAttr (.ref x) name expr) Q E s := by
  obtain ⟨o, e, es, n, rfl, hes⟩ := hat
  have K := hB.K.keeps S.fz
  refine get_bind K (ox := instObj C dx) (od := some (dictOf es n)) ⟨S.fz _ _ hx, rfl, rfl, e⟩ (plainGet_of hg).1 (findObj_fn hh ha hgf ht hc (by show lookIn name (dictOf es n) = _; rw [lookIn_dict, att_get hes, hv])) (plainGet_of hg).2 ?_
  refine wpAny_call (fn_get (s := { s with toks := s.toks + 1 }) K (beq_iff_eq.mp hf) (handed_on rfl ?_))
  obtain ⟨F', hs, S', e'⟩ := S.allocF (o := methodObj (.ref f) (.ref x)) rfl
  exact h F' _ _ hs (S'.tok _) e'
theorem r_CWM {q g : Addr} {self : Value} {pos : Pos} {e : Expr} {rest : List Expr} {Q : Value → Shared → Prop} (hf : fnIn (topK w.params) g = true)
    (h : wpAny (model pg w) A (spliced (backTo pos (starEach (e :: rest) env))) (fun vs s₁ => Bs w s₁.heap ∧ s₁.heap.get? q = some (methodObj (.ref g) self) ∧ codeAny (model pg w) A (.call (.ref g) ⟨self :: vs, []⟩) (fun r s' => match r with | .ok (.ret v) => Q v s' | .ok _ => False | .error e => E e s') s₁) E s)
    (he : starEach (e :: rest) env = (false, eval e env) :: starEach rest env := by rfl) (hst : (backTo pos (starEach rest env)).any (·.1) = true := by rfl) :
    wpAny (model pg w) A (callWith pos (.ref q) [] (backTo pos (starEach (e :: rest) env)) []) Q E s := by
  rw [he] at h ⊢
  exact ks_call (by show (false || (backTo pos (starEach rest env)).any (·.1)) = true; rw [hst]; rfl) (keeps_M hf) (evalArgs_plain (wpAny_mono h (fun _ _ z => ⟨⟨z.2.1, z.1.K⟩, wpAny_call (method_call z.2.1 z.2.2)⟩) fun _ _ z => z))
theorem methodCall_star {o : Expr} {name : Str} {apos pos : Pos} {args : List Expr} {Q : Value → Shared → Prop}
    (h : wpAny (model pg w) A (eval o env) (fun ov s₁ => wpAny (model pg w) A (getAttr ov name true) (fun f s₂ => wpAny (model pg w) A (callWith pos f [] (backTo pos (starEach args env)) []) Q E s₂) E s₁) E s)
    (he : eval (.Call (.Attribute o name apos) args [] pos) env = (do
      let ov ← eval o env
      standAt apos.atName
      let (f, first) ← holding [ov] (do pure (← getAttr ov name true, []))
      callWith pos f first (backTo pos (starEach args env)) (backToKw pos (keywordEach [] env))) := by rfl) :
    wpAny (model pg w) A (eval (.Call (.Attribute o name apos) args [] pos) env) Q E s := by
  rw [he]
  refine wpAny_bind (wpAny_mono h (fun ov s₁ h₁ => wpAny_bind (wpAny_standAt (wpAny_bind (wpAny_holding (wpAny_bind (wpAny_mono h₁ (fun fx s₂ h₂ => wpAny_pure ?_) fun _ _ x => x)))))) fun _ _ x => x)
  exact h₂
end
end
end Mine
end
section
open PySem PySem.W PyProof.Rows PySem.Calls
set_option Elab.async false
set_option maxRecDepth 100000
set_option maxHeartbeats 4000000
namespace Mine
noncomputable section
noncomputable def fdTsiS : {x : FuncData // fdAt P0 102 = x} := by
  refine' ⟨_, _⟩
  rotate_left
  conv => lhs; whnf
noncomputable def fdTsi : FuncData := fdTsiS.1
section
variable {B : Shared} {F F' : Heap} {own own' : Own} {s : Shared} {w : World} {A : Around} {E : Value → Shared → Prop} {env : Env} {m : Str → Option Value} {P P' : Obj → Prop}
theorem sorter_make {Q : Value → Shared → Prop} (S : St B F own s) (hB : Bs w F) (hA : Rm 2 A)
    (h : ∀ F' X t1 t2 s', Sub F F' → SF F' X [] → St B F' (sOwn w X [] .none (.int 0 t1) (.int 0 t2) own) s' → Q (.ref X.x) s') :
    wpAny (model pg w) A (call (.ref 166) []) Q E s := by
  refine r_make (C := 166) (fI := 102) S hB (by rfl) (by rfl) (by rfl) fun x dx s₁ S₁ => ?_
  obtain ⟨F₂, hs₂, S₂, ox, hx, rfl⟩ := S₁.freeze
  have hB₂ := hB.sub hs₂
  refine c_enter (k := 0) (fd := fdTsi) (binds := [(Str.ofString "self", .ref x), (Str.ofString "graph", .none)]) S₂ hB₂ (hA.make 166 []) rfl rfl rfl
    (fun Q' hQ => (binds_K (s := s₁) (hB₂.K.keeps S₂.fz) rfl (by rfl) rfl rfl rfl : BindsTo s₁ fdTsi ⟨[.ref x], []⟩ _) _ _ _ _ (hQ _ S₂)) (by decide) (locs rfl) fun L s₃ S₃ hA₃ => ?_
  refine wpAny_execs_cons (plainObj_wpAny_Assign_Attribute ?_)
  rw [eval_Dict_empty]
  refine wpAny_bind (wpAny_standAt ?_)
  refine wpAny_newObj_type ?_
  have hlo : (s₃.heap.objs.size == sysModules) = false := by
    have := modules_low (bs_nolimit (hB₂.sub S₃.fz))
    rw [beq_eq_false_iff_ne]
    exact Nat.ne_of_gt this
  have S₄ := (S₃.alloc (P := DicO w []) (o := { cls := .type "dict", data := .dict #[] }) rfl ⟨#[], 0, ⟨rfl, rfl, rfl⟩, rfl, (fun e he => by simp at he), .nil, by simp⟩).swap
  generalize s₃.heap.objs.size = d at *
  refine r_local S₄ rfl (r_setA S₄ hB₂ hx (.tail .head) (by rfl) (by rfl) (by rfl) (by rfl) (Nat.le_of_ble_eq_true rfl) fun s₅ S₅ => ?_)
  refine wpAny_execs_cons (plainObj_wpAny_Assign_Attribute (wpAny_Constant_none (r_local S₅ rfl (r_setA S₅ hB₂ hx (.tail .head) (by rfl) (by rfl) (by rfl) (by rfl) (Nat.le_of_ble_eq_true rfl) fun s₆ S₆ => ?_))))
  refine wpAny_execs_cons (plainObj_wpAny_Assign_Attribute (r_int S₆ fun t1 s₇ S₇ => r_local S₇ rfl (r_setA S₇ hB₂ hx (.tail .head) (by rfl) (by rfl) (by rfl) (by rfl) (Nat.le_of_ble_eq_true rfl) fun s₈ S₈ => ?_)))
  refine wpAny_execs_cons (plainObj_wpAny_Assign_Attribute (r_int S₈ fun t2 s₉ S₉ => r_local S₉ rfl (r_setA S₉ hB₂ hx (.tail .head) (by rfl) (by rfl) (by rfl) (by rfl) (Nat.le_of_ble_eq_true rfl) fun s₁₀ S₁₀ => ?_)))
  refine wpAny_execs_cons (wpAny_If (wpAny_isTrue_Compare1 (r_local S₁₀ rfl (wpAny_Constant_none (isnot_none_none (wpAny_truthy_bool (wpAny_execs_nil (wpAny_execs_nil ⟨rfl, ?_⟩))))))))
  exact h F₂ ⟨x, dx, d⟩ t1 t2 _ hs₂ ⟨hx, hlo, (fun n hn => by cases hn), by simp, by simp⟩ S₁₀.pop.swap
end
end
end Mine
end
section
open PySem PySem.W PyProof.Rows PySem.Calls
set_option Elab.async false
set_option maxRecDepth 100000
set_option maxHeartbeats 4000000
namespace Mine
noncomputable section
/-! ## iter(xs).__next__ -/
theorem slot_li_ga : Slot "list_iterator" "__getattribute__" "object.__getattribute__" :=
  .of (owner := "object") (n := "__getattribute__") (by rw [typeLookup_type, builtinLookup_eq_fast]; kernel_rfl) (by decide +kernel) (by decide +kernel) (by decide +kernel)
    (by first | exact .inl (by decide +kernel) | exact .inr (by decide +kernel)) (by rw [isSubtype_type]; kernel_rfl)
theorem entry_li_ga : entryFor table "object.__getattribute__" = some Builtin.«object.__getattribute__» := entryFor_of_tree (by kernel_rfl)
theorem args_li_ga (a b : Value) : argsOk "object.__getattribute__" ⟨[a, b], []⟩ := by unfold argsOk; kernel_rfl
theorem slot_wd_get : Slot "wrapper_descriptor" "__get__" "wrapper_descriptor.__get__" :=
  .of (owner := "wrapper_descriptor") (n := "__get__") (by rw [typeLookup_type, builtinLookup_eq_fast]; kernel_rfl) (by decide +kernel) (by decide +kernel) (by decide +kernel)
    (by first | exact .inl (by decide +kernel) | exact .inr (by decide +kernel)) (by rw [isSubtype_type]; kernel_rfl)
theorem wd_no_set : typeLookup (.type "wrapper_descriptor") "__set__" = pure none := by rw [typeLookup_type, builtinLookup_eq_fast]; kernel_rfl
theorem wd_no_del : typeLookup (.type "wrapper_descriptor") "__delete__" = pure none := by rw [typeLookup_type, builtinLookup_eq_fast]; kernel_rfl
theorem entry_wd_get : entryFor table "wrapper_descriptor.__get__" = some Builtin.«wrapper_descriptor.__get__» := entryFor_of_tree (by kernel_rfl)
theorem args_wd_get (a b c : Value) : argsOk "wrapper_descriptor.__get__" ⟨[a, b, c], []⟩ := by unfold argsOk; kernel_rfl
theorem typeOf_li_next : typeOf (.builtin "list_iterator.__next__") = pure (.type "wrapper_descriptor") := by kernel_rfl
theorem owner_li_next : (".".intercalate ("list_iterator.__next__".cutAt '.').dropLast) = "list_iterator" := by
  have e0 : "list_iterator.__next__".cutAt '.' = ["list_iterator", "__next__"] := by first | rfl | decide +kernel
  rw [e0]; decide +kernel
theorem sub_li_li : isSubtype (.type "list_iterator") (.type (".".intercalate ("list_iterator.__next__".cutAt '.').dropLast)) = pure true := by
  rw [owner_li_next, isSubtype_type]; kernel_rfl
noncomputable abbrev mwObj (it : Addr) : Obj := { cls := .type "method-wrapper", data := .fields #[.builtin "list_iterator.__next__", .ref it] }
section
variable {prog : Program} {w : World} {A : Around} {E : Value → Shared → Prop} {h : Heap} {g : Array GenState} {d : Drawn} {t : Nat} {os : OsState} {a : Addr} {o : Obj}
theorem nx_get {R : Result → Shared → Prop} (hx : h.get? a = some o) (hc : o.cls = .type "list_iterator") (hq : R (.ok (.ret (.ref h.objs.size))) ⟨h.push (mwObj a), g, d, t, os⟩) :
    codeAny (model prog w) A (.call (.builtin "wrapper_descriptor.__get__") ⟨[.builtin "list_iterator.__next__", .ref a, .type "list_iterator"], []⟩) R ⟨h, g, d, t, os⟩ := by
  have hT : (⟨h, g, d, t, os⟩ : Shared).TypeIs (.ref a) "list_iterator" := ⟨_, hx, hc⟩
  have hT5 : (⟨h, g, d, t, os⟩ : Shared).TypeIs (.builtin "list_iterator.__next__") "wrapper_descriptor" := typeOf_li_next
  have f8 := sub_li_li
  refine codeAny_call_builtin slot_wd_get.plain entry_wd_get (slot_wd_get.check _ _ _ _ _ _ _ _ hT5 (args_wd_get _ _ _) ?_)
  repeat (any_goals (first | assumption | wp_step))

theorem nx_entry {tk : Tok} {vs : Array Value} {Q : Fin → Shared → Prop} (hx : h.get? a = some { cls := .type "list_iterator", data := .fields vs }) (hq : Q (.done (.ret (.ref h.objs.size))) ⟨h.push (mwObj a), g, d, t, os⟩) :
    wpAny (model prog w) A (Builtin.«object.__getattribute__» ⟨[.ref a, .str "__next__" tk], []⟩) Q E ⟨h, g, d, t, os⟩ := by
  have hT : (⟨h, g, d, t, os⟩ : Shared).TypeIs (.ref a) "list_iterator" := ⟨_, hx, rfl⟩
  have hT5 : (⟨h, g, d, t, os⟩ : Shared).TypeIs (.builtin "list_iterator.__next__") "wrapper_descriptor" := typeOf_li_next
  have f4 := slot_listiter_next.lookup
  have f5 := typeOf_li_next
  have f6 := slot_wd_get.lookup
  have f7 := wd_no_set
  have f8 := wd_no_del
  repeat (any_goals (first | assumption | wp_step))
  refine nx_get hx rfl ?_
  repeat (any_goals (first | assumption | wp_step))
theorem nx_attr {vs : Array Value} {Q : Value → Shared → Prop} (hx : h.get? a = some { cls := .type "list_iterator", data := .fields vs }) (hq : Q (.ref h.objs.size) ⟨h.push (mwObj a), g, d, t + 1, os⟩) :
    wpAny (model prog w) A (getAttr (.ref a) "__next__" true) Q E ⟨h, g, d, t, os⟩ := by
  have f2 := slot_li_ga.lookup
  have f3 := slot_li_ga.bind (.ref a)
  unfold getAttr getAttrBy
  refine wpAny_bind (wpAny_mkText (wpAny_holding (wpAny_bind ?_)))
  have hT : (⟨h, g, d, t + 1, os⟩ : Shared).TypeIs (.ref a) "list_iterator" := ⟨_, hx, rfl⟩
  repeat (any_goals (first | assumption | wp_step))
  refine codeAny_call_builtin slot_li_ga.plain entry_li_ga (slot_li_ga.check _ _ _ _ _ _ _ _ hT (args_li_ga _ _) (nx_entry hx ?_))
  exact wpAny_pure hq
end
section
variable {B : Shared} {F F' : Heap} {own own' : Own} {s : Shared} {w : World} {A : Around} {E : Value → Shared → Prop} {env : Env} {m : Str → Option Value} {P P' : Obj → Prop}
theorem r_nextAttr {it l : Addr} {own : Own} {Q : Value → Shared → Prop} (S : St B F own s) (hx : s.heap.get? it = some { cls := .type "list_iterator", data := .fields #[.ref l, .int 0 0] })
    (h : ∀ F' u s', Sub F F' → St B F' own s' → F'.get? u = some (mwObj it) → (∀ b o, s.heap.get? b = some o → s'.heap.get? b = some o) → Q (.ref u) s') : wpAny (model pg w) A (getAttr (.ref it) "__next__" true) Q E s := by
  obtain ⟨F', hs, S', e⟩ := S.allocF (o := mwObj it) rfl
  obtain ⟨hh, g, d, t, os⟩ := s
  exact nx_attr hx (h F' _ _ hs (S'.tok _) e (fun b o q => Heap.get?_push_of_some _ q))

/-! ### the call of such a bound next -/
theorem r_cwNext {pos : Pos} {u it : Addr} {Q : Value → Shared → Prop} (hu : s.heap.get? u = some (mwObj it)) (h : wpAny (model pg w) A (call (.ref u) []) Q E s) :
    wpAny (model pg w) A (callWith pos (.ref u) [] (backTo pos (starEach [] env)) []) Q E s := by
  unfold callWith
  refine wpAny_bind (wpAny_holding (evalArgs_nil3 (wpAny_bind (wpAny_standAt ?_))))
  show wpAny _ _ (keeperOf (.ref u) >>= _) _ _ _
  refine wpAny_bind (m := keeperOf (.ref u)) ?_
  unfold keeperOf
  refine wpAny_bind (wpAny_load hu ?_)
  simp only [show (Value.type "method-wrapper" != Value.type "method") = true by decide, show (Value.type "method-wrapper" == Value.type "builtin_function_or_method" || Value.type "method-wrapper" == Value.type "method-wrapper") = true by decide, if_true]
  refine wpAny_pure ?_
  exact wpAny_bind (wpAny_mono h (fun r s₂ hr => wpAny_bind (wpAny_holding (wpAny_point (wpAny_pure hr)))) fun _ _ x => x)
end
end
end Mine
end
section
open PySem PySem.W PyProof.Rows PySem.Calls
set_option Elab.async false
set_option maxRecDepth 100000
set_option maxHeartbeats 4000000
namespace Mine
noncomputable section
theorem check_nx (it : Addr) : checkBoundCall "list_iterator.__next__" ⟨[.ref it], []⟩ = pure () := by first | kernel_rfl | rfl
theorem quiet_nx (it : Addr) : (Code.builtin "list_iterator.__next__" ⟨[.ref it], []⟩).quiet = true := Code.quiet_builtin _ (by decide +kernel)
section
variable {B : Shared} {F F' : Heap} {own own' : Own} {s : Shared} {w : World} {A : Around} {E : Value → Shared → Prop} {env : Env} {m : Str → Option Value} {P P' : Obj → Prop}
theorem nx_call {u it : Addr} {Q : Value → Shared → Prop} (hu : s.heap.get? u = some (mwObj it))
    (h : wpAny (model pg w) A.in1 (Builtin.«list_iterator.__next__» ⟨[.ref it], []⟩) (fun fin s' => match fin with | .done (.ret v) => Q v s' | _ => False) E s) : wpAny (model pg w) A (call (.ref u) []) Q E s := by
  refine wpAny_call (codeAny_of_tree ?_)
  show wpAny _ A.in1 (callAny (.ref u) ⟨[], []⟩) _ _ s
  simp only [callAny]
  refine wpAny_bind (wpAny_load hu ?_)
  simp only [show (Value.type "method-wrapper" == Value.type "method" || Value.type "method-wrapper" == Value.type "builtin_function_or_method" || Value.type "method-wrapper" == Value.type "method-wrapper") = true by decide, if_true]
  show wpAny _ _ (if (Value.type "method-wrapper" != Value.type "method") = true then _ else _) _ _ _
  rw [if_pos (by decide)]
  refine wpAny_bind (wpAny_of_eq (a := ()) (check_nx it) ?_)
  refine wpAny_bind (wpAny_pure (wpAny_pure ?_))
  refine ⟨quiet_nx it, codeAny_builtin entry_listiter_next (wpAny_mono h (fun fin s' z => ?_) fun _ _ z => z)⟩
  rcases fin with (_ | _ | _ | _) | _ <;> first | exact z | exact z.elim
theorem r_nextItem {u it l : Addr} {i : Nat} {xs : List Value} {x : Value} {Q : Value → Shared → Prop} (S : St B F own s) (hu : F.get? u = some (mwObj it)) (up : Upd own it (IterO l i) (IterO l (i + 1)) own')
    (hl : s.heap.IsList l xs.toArray) (hx : xs[i]? = some x) (h : ∀ s', St B F own' s' → Q x s') : wpAny (model pg w) A (call (.ref u) []) Q E s := by
  refine nx_call (S.fz _ _ hu) ?_
  obtain ⟨o, ho, hc, hd⟩ := S.at up
  obtain ⟨ol, hol, _, nl, hdl⟩ := hl
  show wpAny _ _ (field (.ref it) 0 >>= _) _ _ s
  refine wpAny_bind (wpAny_field ho hd (x := .ref l) rfl ?_)
  show wpAny _ _ (if (Value.ref l == Value.none) = true then _ else _) _ _ s
  rw [if_neg (show ¬ ((Value.ref l == Value.none) = true) from Bool.false_ne_true)]
  show wpAny _ _ (field (.ref it) 1 >>= _) _ _ s
  refine wpAny_bind (wpAny_field ho hd (x := .int i 0) rfl ?_)
  show wpAny _ _ (seqItems? (.ref l) >>= _) _ _ s
  refine wpAny_bind (wpAny_seqItems hol hdl ?_)
  have hx' : xs.toArray[i]? = some x := by simpa using hx
  simp only [Int.toNat_natCast, hx']
  refine wpAny_bind (wpAny_setField ho hd (by simp) (wpAny_pure (h _ ?_)))
  refine S.updAt up (Heap.SameBut.update ..) (Heap.get?_update_self _ ho (Obj.isFreed_of_fields (Obj.data_mapFields hd _))) ⟨(Obj.cls_mapFields ..).trans hc, ?_⟩ s.toks
  rw [Obj.data_mapFields hd]; simp [rawInt]
noncomputable abbrev stopObj (T : Addr) : Obj := { cls := .type "StopIteration", data := .fields #[.ref T, .none, .none, .none, .bool false, .none] }
theorem r_nextEnd {u it l : Addr} {i : Nat} {xs : List Value} {Q : Value → Shared → Prop} (hh : A.handled = none) (S : St B F ((it, IterO l i) :: own) s) (hu : F.get? u = some (mwObj it))
    (hl : s.heap.IsList l xs.toArray) (hx : xs[i]? = none) (h : ∀ e T s', St B F own s' → s'.heap.get? e = some (stopObj T) → F.get? e = none → e ∉ own.map (·.1) → E (.ref e) s') : wpAny (model pg w) A (call (.ref u) []) Q E s := by
  refine nx_call (S.fz _ _ hu) ?_
  obtain ⟨o, ho, hc, hd⟩ := S.head
  obtain ⟨ol, hol, _, nl, hdl⟩ := hl
  show wpAny _ _ (field (.ref it) 0 >>= _) _ _ s
  refine wpAny_bind (wpAny_field ho hd (x := .ref l) rfl ?_)
  show wpAny _ _ (if (Value.ref l == Value.none) = true then _ else _) _ _ s
  rw [if_neg (show ¬ ((Value.ref l == Value.none) = true) from Bool.false_ne_true)]
  show wpAny _ _ (field (.ref it) 1 >>= _) _ _ s
  refine wpAny_bind (wpAny_field ho hd (x := .int i 0) rfl ?_)
  show wpAny _ _ (seqItems? (.ref l) >>= _) _ _ s
  refine wpAny_bind (wpAny_seqItems hol hdl ?_)
  have hx' : xs.toArray[i]? = none := by simpa using hx
  simp only [Int.toNat_natCast, hx']
  refine wpAny_bind (wpAny_rule (wpAny_bind (wpAny_setField ho hd (by simp) ?_)))
  have S1 := S.updExt (Heap.SameBut.update (h := s.heap) (a := it) (f := Obj.mapFields (·.setIfInBounds 0 .none))).extBut s.toks
  show wpAny _ _ (newExc (.type "StopIteration") [] >>= _) _ _ _
  refine wpAny_bind ?_
  simp only [newExc, newTuple]
  refine wpAny_bind (wpAny_newObj_type ?_ (by size_fits))
  refine wpAny_bind (m := firstArgMember _ _) (wpAny_of_eq (a := Value.none) (by first | rfl | (simp only [firstArgMember]; rfl)) ?_)
  refine wpAny_newObj_type ?_ (by size_fits)
  simp only [raiseNew]
  refine wpAny_bind (wpAny_handled ?_)
  rw [show A.in1.handled = none from hh]
  refine wpAny_bind (wpAny_pure (wpAny_throw ?_))
  have hle : (s.heap.update it (Obj.mapFields (·.setIfInBounds 0 .none))).objs.size ≤ ((s.heap.update it (Obj.mapFields (·.setIfInBounds 0 .none))).push { cls := .type "tuple", data := .seq ([] : List Value).toArray }).objs.size := by
    rw [Heap.size_push]; exact Nat.le_succ _
  exact h _ _ _ (S1.keeps (fun b o q => Heap.get?_push_of_some _ (Heap.get?_push_of_some _ q)) s.toks) (Heap.get?_push_size _ rfl) (S1.noneF hle) (S1.notin hle)
end
end
end Mine
end
section
open PySem PySem.W PyProof.Rows PySem.Calls
set_option Elab.async false
set_option maxRecDepth 100000
set_option maxHeartbeats 4000000
namespace Mine
noncomputable section
/-! ## an exception caught -/
noncomputable def Fm (envs : List Env) (own : Own) : Prop := ∀ env ∈ envs, env.scope.kind ≠ .module ∧ ∃ L m, env.frame = some L ∧ (L, NsO m) ∈ own
section
variable {B : Shared} {F F' : Heap} {own own' : Own} {s : Shared} {w : World} {M : Model} {A : Around} {E : Value → Shared → Prop} {env : Env} {m : Str → Option Value} {P P' : Obj → Prop}
theorem St.funFrames (S : St B F own s) : ∀ {envs : List Env}, Fm envs own → s.heap.FunFrames F envs
  | [], _ => trivial
  | env :: envs, h => by
    obtain ⟨hk, L, m, hf, hm⟩ := h env (.head _)
    obtain ⟨x, o, e, es, ep, q, _⟩ := S.ow _ hm
    exact ⟨hk, ⟨L, o, hf, x, e, fun vs => by rw [q]; intro z; cases z⟩, St.funFrames S fun e he => h e (.tail _ he)⟩
theorem St.slots {envs : List Env} {h' : Heap} (S : St B F own s) (hm : Fm envs own) (hs : Heap.SlotsOnly (envs.filterMap (·.frame)) s.heap h') (t : Nat) : St B F own { s with heap := h', toks := t } := by
  refine ⟨S.gens, S.os, S.dr, fun b o e => ?_, fun p hp => ?_, S.nd⟩
  · refine (hs.2.1 b fun hb => ?_).trans (S.fz _ _ e)
    obtain ⟨env, he, hf⟩ := List.mem_filterMap.mp hb
    obtain ⟨_, L, m, hf', hL⟩ := hm env he
    rw [hf] at hf'
    cases hf'
    rw [(S.ow _ hL).1] at e
    cases e
  · obtain ⟨x, o, e, q⟩ := S.ow p hp
    refine ⟨x, ?_⟩
    by_cases hb : p.1 ∈ envs.filterMap (·.frame)
    · obtain ⟨env, he, hf⟩ := List.mem_filterMap.mp hb
      obtain ⟨_, L, m, hf', hL⟩ := hm env he
      rw [hf] at hf'
      cases hf'
      obtain ⟨sl, e'⟩ := hs.2.2 _ _ e
      have hpe : p = (p.1, NsO m) := by
        have nd := S.nd
        by_cases hc : p = (p.1, NsO m)
        · exact hc
        · exfalso
          obtain ⟨l1, l2, hl⟩ := List.append_of_mem hp
          rw [hl] at hL nd
          rw [List.map_append, List.map_cons, List.nodup_append] at nd
          obtain ⟨_, n2, n3⟩ := nd
          rcases List.mem_append.mp hL with hL | hL
          · exact n3 _ (List.mem_map_of_mem (f := (·.1)) hL) _ (.head _) rfl
          · rcases List.mem_cons.mp hL with hL | hL
            · exact hc hL.symm
            · exact (List.nodup_cons.mp n2).1 (List.mem_map_of_mem (f := (·.1)) hL)
      rw [hpe] at q ⊢
      obtain ⟨es, ep, r⟩ := q
      exact ⟨_, e', es, ep, r⟩
    · exact ⟨o, (hs.2.1 _ hb).trans e, q⟩
/-- what is neither frozen nor owned may change -/
theorem St.stray {h' : Heap} {a : Addr} (S : St B F own s) (ha : F.get? a = none) (hn : a ∉ own.map (·.1)) (hk : ∀ b o, b ≠ a → s.heap.get? b = some o → h'.get? b = some o) (t : Nat) : St B F own { s with heap := h', toks := t } := by
  refine ⟨S.gens, S.os, S.dr, fun b o e => hk b o (fun q => by rw [q, ha] at e; cases e) (S.fz _ _ e), fun p hp => ?_, S.nd⟩
  obtain ⟨x, o, e, q⟩ := S.ow p hp
  exact ⟨x, o, hk _ _ (fun z => hn (z ▸ List.mem_map_of_mem (f := (·.1)) hp)) e, q⟩
structure Caught (F : Heap) (own : Own) (e tb L : Addr) (fl : Value) (h : Heap) : Prop where
  exc : ∃ oe vs, h.get? e = some oe ∧ oe.cls = .type "StopIteration" ∧ oe.data = .fields vs ∧ vs[1]? = some (.ref tb)
  trace : ∃ ot ts, h.get? tb = some ot ∧ ot.data = .fields ts ∧ ts[3]? = some fl
  te : tb ≠ e
  fe : F.get? e = none
  ft : F.get? tb = none
  oe : e ∉ own.map (·.1)
  ot : tb ∉ own.map (·.1)
theorem r_note {L e T : Addr} {outer : List Env} {Q : Unit → Shared → Prop} (S : St B F own s) (hfr : A.frames = some (env :: outer)) (hm : Fm (env :: outer) own) (hf : env.frame = some L) (he : s.heap.get? e = some (stopObj T)) (hFe : F.get? e = none) (heo : e ∉ own.map (·.1))
    (h : ∀ tb s', St B F own s' → Caught F own e tb L (rawInt L) s'.heap → Q () s') : wpAny M A (noteFrame (.ref e) env) Q E s := by
  have hl := S.funFrames hm
  unfold noteFrame
  simp only [hf]
  refine wpAny_bind (wpAny_field he rfl (x := .none) rfl ?_)
  rw [if_neg (by decide)]
  refine wpAny_bind (wpAny_frameOf_fun hfr hl hf fun h₁ hs₁ => ?_)
  have S₁ := S.slots hm hs₁ s.toks
  have hene : e ∉ (env :: outer).filterMap (·.frame) := fun hb => by
    obtain ⟨_, o, ho, hnf⟩ := hl.mem hb
    rw [he] at ho; cases ho; exact hnf _ rfl
  have he₁ : h₁.get? e = some (stopObj T) := (hs₁.2.1 e hene).trans he
  refine wpAny_bind (wpAny_entryPlaceOf fun pl hpl => ?_)
  unfold EntryCells.newEntry newFields
  refine wpAny_bind (wpAny_newObj_type ?_ (hpl.sizeOk5 _ _ _ _ _))
  have he₂ := Heap.get?_push_of_some (h := h₁) { cls := .type "traceback", dict := none, data := .fields ([Value.none, .ref L, .none, rawInt L, .none] ++ (if pl.isEmpty then List.replicate 6 Value.none else pl)).toArray } he₁
  refine wpAny_setField he₂ rfl (by simp) ?_
  have hTe : h₁.objs.size ≠ e := Nat.ne_of_gt (Heap.lt_size he₁)
  have hn1 := S₁.noneF (a := h₁.objs.size) (Nat.le_refl _)
  have hn2 := S₁.notin (a := h₁.objs.size) (Nat.le_refl _)
  refine h h₁.objs.size _ (S₁.stray hFe heo (h' := Heap.update _ e _) (fun b o hb q => ?_) s.toks) ⟨⟨_, _, Heap.get?_update_self _ he₂ rfl, rfl, rfl, rfl⟩, ⟨_, _, (Heap.get?_update_other _ _ (Ne.symm hTe)).trans (Heap.get?_push_size h₁ rfl), rfl, ?_⟩, hTe, hFe, hn1, heo, hn2⟩
  · rw [Heap.get?_update_other _ _ (Ne.symm hb)]
    exact Heap.get?_push_of_some _ q
  · first | (simp; done) | (rcases hpl with rfl | ⟨_, _, _, _, _, _, _, rfl⟩ <;> simp)
theorem r_flight {L e tb : Addr} {fl : Value} {Q : Unit → Shared → Prop} (S : St B F own s) (C : Caught F own e tb L fl s.heap) (h : ∀ s', St B F own s' → Caught F own e tb L .none s'.heap → Q () s') : wpAny M A (setFlight (.ref e) none) Q E s := by
  obtain ⟨oe, vs, he, hc, hd, h1⟩ := C.exc
  obtain ⟨ot, ts, ht, hdt, h3⟩ := C.trace
  have hsz : 3 < ts.size := (Array.getElem?_eq_some_iff.mp h3).1
  refine wpAny_setFlight_none he hd h1 ht hdt hsz ?_
  have hd' := Obj.data_mapFields hdt (·.setIfInBounds 3 .none)
  refine h _ (S.stray C.ft C.ot (fun b o hb q => by rw [Heap.get?_update_other _ _ (Ne.symm hb)]; exact q) s.toks) ⟨⟨oe, vs, (Heap.get?_update_other _ _ C.te).trans he, hc, hd, h1⟩, ⟨_, _, Heap.get?_update_self _ ht (Obj.isFreed_of_fields hd'), hd', by simp [hsz]⟩, C.te, C.fe, C.ft, C.oe, C.ot⟩
end
end
end Mine
end
section
open PySem PySem.W PyProof.Rows PySem.Calls
set_option Elab.async false
set_option maxRecDepth 100000
set_option maxHeartbeats 4000000
namespace Mine
noncomputable section
section
variable {B : Shared} {F F' : Heap} {own own' : Own} {s : Shared} {w : World} {A : Around} {E : Value → Shared → Prop} {env : Env} {m : Str → Option Value} {P P' : Obj → Prop}
theorem r_try {L : Addr} {outer : List Env} {body suite : List Stmt} {b₀ : Stmt} {p hpos pos : Pos} {Q : Flow → Shared → Prop} (hfr : A.frames = some (env :: outer)) (hf : env.frame = some L)
    (h : wpAny (model pg w) A (execs body env) (fun f s₁ => match f with | .next => Q .next s₁ | f => Q f s₁)
      (fun ev s₁ => ∃ e T B F own, ev = .ref e ∧ St B F own s₁ ∧ Bs w F ∧ Fm (env :: outer) own ∧ s₁.heap.get? e = some (stopObj T) ∧ F.get? e = none ∧ e ∉ own.map (·.1) ∧
        ∀ s₂, St B F own s₂ → wpAny (model pg w) (A.mark (some (.ref e))) (execs (b₀ :: suite) env) Q (fun _ _ => False) s₂) s)
    (hg : env.globals = mainGlobals := by rfl) (hb : env.builtins = builtinsNs := by rfl) (hk : env.scope.kind = .function := by rfl) (hx : env.kindOf "StopIteration" = some .globalImplicit := by rfl) :
    wpAny (model pg w) A (exec (.Try body [.ExceptHandler (some (.Name "StopIteration" p)) none (b₀ :: suite) hpos] [] [] pos) env) Q E s := by
  refine wpAny_Try_except (wpAny_mono h (fun f s₁ h₁ => ?_) fun ev s₁ h₁ => ?_)
  · cases f <;> first | exact h₁ | exact wpAny_execs_nil h₁
  · obtain ⟨e, T, B, F, own, rfl, S, hB, hm, he, hFe, heo, hk'⟩ := h₁
    refine r_note S hfr hm hf he hFe heo fun tb s₂ S₂ C₂ => ?_
    refine r_flight S₂ C₂ fun s₃ S₃ C₃ => ?_
    refine wpAny_handleBy_builtin (X := "StopIteration") (T := "StopIteration") (b := true) (by rw [isSubtype_type]; kernel_rfl) (by rw [isSubtype_type]; kernel_rfl) isSubtype_stop ?_
    refine r_builtin (v := .type "StopIteration") S₃ hB rfl (by kernel_rfl) (by decide) ?_ hg hb hk hx (by decide)
    obtain ⟨oe, vs, e1, e2, _⟩ := C₃.exc
    refine ⟨rfl, ⟨oe, e1, e2⟩, ?_⟩
    rw [if_pos rfl]
    refine r_flight S₃ C₃ fun s₄ S₄ C₄ => ?_
    exact wpAny_mono (hk' s₄ S₄) (fun _ _ x => x) fun _ _ x => x.elim
end
end
end Mine
end
section
open PySem PySem.W PyProof.Rows PySem.Calls
set_option Elab.async false
set_option maxRecDepth 100000
set_option maxHeartbeats 4000000
namespace Mine
noncomputable section
noncomputable def SetO (w : World) (S : Int → Bool) (n : Nat) (o : Obj) : Prop := ∃ es ep t, o.ExactSet ∧ o.data = .set es ep t ∧ ElemsOf (intKind pg w) es.toList ∧ (∀ k, S k = true ↔ ∃ e ∈ es.toList, (intKind pg w).is k e.2 = true)
    ∧ es.size < scanBound ∧ t.fits es.size = true ∧ es.size = n
section
variable {B : Shared} {F F' : Heap} {own own' : Own} {s : Shared} {w : World} {A : Around} {E : Value → Shared → Prop} {env : Env} {m : Str → Option Value} {P P' : Obj → Prop}
theorem set_of {h : Heap} {a : Addr} {S : Int → Bool} {n : Nat} (x : ∃ o, h.get? a = some o ∧ SetO w S n o) : h.SetOf (intKind pg w) a S n := let ⟨o, e, es, ep, t, r⟩ := x; ⟨o, es, ep, t, e, r⟩
theorem of_set {h : Heap} {a : Addr} {S : Int → Bool} {n : Nat} (x : h.SetOf (intKind pg w) a S n) : ∃ o, h.get? a = some o ∧ SetO w S n o := let ⟨o, es, ep, t, e, r⟩ := x; ⟨o, e, es, ep, t, r⟩
theorem intIs (k : Int) (t : Tok) : (intKind pg w).is k (.int k t) = true := by simp [intKind, Value.isInt]

theorem r_inSet {a : Addr} {S : Int → Bool} {n : Nat} {k : Int} {t : Tok} {Q : Value → Shared → Prop} (St₀ : St B F own s) (hm : (a, SetO w S n) ∈ own) (h : ∀ s', St B F own s' → Q (.bool (S k)) s') :
    wpAny (model pg w) A (compareOp .In (.int k t) (.ref a)) Q E s :=
  wpAny_inSet_of (knd := intKind pg w) (intIs k t) rfl (set_of (St₀.mem hm)) (h _ (St₀.tok _))
theorem r_addSet {a : Addr} {S : Int → Bool} {n : Nat} {k : Int} {t : Tok} {Q : Value → Shared → Prop} (St₀ : St B F own s) (u : Upd own a (SetO w S n) (SetO w (fun k' => S k' || decide (k' = k)) (n + 1)) own') (hS : S k = false) (hroom : n + 1 < scanBound)
    (h : ∀ s', St B F own' s' → Q .none s') : wpAny (model pg w) A (call (.builtin "set.add") [.ref a, .int k t]) Q E s := by
  refine call_set_add (knd := intKind pg w) (intIs k t) rfl (set_of (St₀.at u)) hroom fun h' hsb hS' => ?_
  rw [hS, if_neg (by decide)] at hS'
  obtain ⟨o, e, q⟩ := of_set hS'
  exact h _ (St₀.updAt u hsb e q _)
theorem r_inDict {d : Addr} {kvs : List (Int × Value)} {k : Int} {t : Tok} {Q : Value → Shared → Prop} (S : St B F own s) (hm : (d, DicO w kvs) ∈ own) (lo : (d == sysModules) = false) (hk : k ∉ kvs.map (·.1)) (h : ∀ s', St B F own s' → Q (.bool false) s') :
    wpAny (model pg w) A (compareOp .In (.int k t) (.ref d)) Q E s := by
  refine wpAny_in_of (knd := intKind pg w) (intIs k t) lo (dic_of (S.mem hm)).mapOf ?_
  have : valueAt kvs k = none := by
    unfold valueAt
    rw [List.find?_eq_none.mpr]; rfl
    intro kv hkv e
    exact hk (List.mem_map.mpr ⟨kv, hkv, by simpa using e⟩)
  rw [this]
  exact h _ (S.tok _)
theorem r_setDict {d : Addr} {kvs : List (Int × Value)} {k : Int} {t : Tok} {v : Value} {Q : Unit → Shared → Prop} (S : St B F own s) (u : Upd own d (DicO w kvs) (DicO w (kvs ++ [(k, v)])) own') (hk : k ∉ kvs.map (·.1)) (hsz : kvs.length ≤ sizeLine) (h : ∀ s', St B F own' s' → Q () s') :
    wpAny (model pg w) A (setItem (.ref d) (.int k t) v) Q E s := by
  refine wpAny_setItem_pairs (k := k) (hsz := hsz) (intIs k t) (dic_of (S.at u)) fun h' hmm hsb => ?_
  have e1 : stored kvs k v = kvs ++ [(k, v)] := by
    unfold stored
    rw [if_neg]
    rw [List.any_eq_true]
    rintro ⟨kv, hkv, e⟩
    exact hk (List.mem_map.mpr ⟨kv, hkv, by simpa using e⟩)
  rw [e1] at hmm
  obtain ⟨o', ho', hd'⟩ := Heap.dictOf_iff.mp hmm
  exact h _ (S.updAt u hsb ho' hd' _)
theorem r_delDict {d : Addr} {kvs : List (Int × Value)} {k : Int} {t : Tok} {v : Value} {Q : Unit → Shared → Prop} (S : St B F own s) (u : Upd own d (DicO w (kvs ++ [(k, v)])) (DicO w kvs) own') (hk : k ∉ kvs.map (·.1)) (hsz : kvs.length + 1 ≤ sizeLine) (h : ∀ s', St B F own' s' → Q () s') :
    wpAny (model pg w) A (delItem (.ref d) (.int k t)) Q E s := by
  have hD := dic_of (S.at u)
  unfold delItem
  try with_reducible refine wpAny_holding ?_
  refine wpAny_bind (wpAny_sequenceKey hD.typeIs (by decide) ?_)
  refine wpAny_bind (wpAny_callSpecial?_slot (name := Str.ofString "__delitem__") hD.typeIs PySem.F.slot_dict_delitem
    (call_meetsIn PySem.F.slot_dict_delitem hD.typeIs PySem.F.entry_dict_delitem (PySem.F.args_dict_delitem_2 _ _) (meets_dict_delitem_pairs (intKind pg w) d (k := k) (intIs k t)) ⟨_, hD, by rw [List.length_append]; exact hsz, ?_, fun h' hmm hsb => ?_⟩))
  · unfold valueAt
    rw [Option.isSome_map, List.find?_isSome]
    exact ⟨(k, v), by simp, by simp⟩
  · have e1 : without (kvs ++ [(k, v)]) k = kvs := by
      unfold without
      rw [List.filter_append, List.filter_eq_self.mpr]
      · simp
      · intro kv hkv
        have : kv.1 ≠ k := fun e => hk (List.mem_map.mpr ⟨kv, hkv, e⟩)
        simpa using this
    rw [e1] at hmm
    obtain ⟨o', ho', hd'⟩ := Heap.dictOf_iff.mp hmm
    exact wpAny_pure (h _ (S.updAt u hsb ho' hd' _))
/-- xs.pop() -/
theorem r_popL {D : Addr} {p : List Value} {y : Value} {Q : Value → Shared → Prop} (S : St B F own s) (u : Upd own D (ListO (p ++ [y])) (ListO p) own') (hz : p.length + 1 ≤ sizeLine) (h : ∀ s', St B F own' s' → Q y s') :
    wpAny (model pg w) A (call (.builtin "list.pop") [.ref D]) Q E s := by
  obtain ⟨o, ho, n, rfl⟩ := S.at u
  have hz' : (p ++ [y]).toArray.size ≤ sizeLine := by rw [List.size_toArray, List.length_append]; exact hz
  have hk : (p ++ [y]).toArray.size - 1 = p.length := by rw [List.size_toArray, List.length_append]; rfl
  have hy : (p ++ [y]).toArray[(p ++ [y]).toArray.size - 1]? = some y := by rw [hk]; simp
  refine call_meets PySem.F.slot_list_pop ⟨_, ho, rfl⟩ PySem.F.entry_list_pop (PySem.F.args_list_pop_1 _) (PySem.MeetsSeq.list_pop_last D _ n y hy hz') ⟨ho, h _ ?_⟩
  have q := PySem.IsL.update ho (fun its => its.eraseIdxIfInBounds ((p ++ [y]).toArray.size - 1))
  rw [show (p ++ [y]).toArray.eraseIdxIfInBounds ((p ++ [y]).toArray.size - 1) = p.toArray from by rw [hk, kl_erase, List.append_nil]] at q
  exact S.updAt u (Heap.SameBut.update ..) q ⟨_, rfl⟩ s.toks
/-- xs.pop(i) -/
theorem r_popAt {D : Addr} {p q : List Value} {y : Value} {i : Int} {t : Tok} {Q : Value → Shared → Prop} (S : St B F own s) (hi : i = p.length) (u : Upd own D (ListO (p ++ y :: q)) (ListO (p ++ q)) own') (hz : (p ++ y :: q).length ≤ 1000) (h : ∀ s', St B F own' s' → Q y s') :
    wpAny (model pg w) A (call (.builtin "list.pop") [.ref D, .int i t]) Q E s := by
  obtain ⟨o, ho, n, rfl⟩ := S.at u
  have hz' : (p ++ y :: q).toArray.size ≤ sizeLine := by rw [List.size_toArray]; exact Nat.le_trans hz (by decide +kernel)
  have hy : (p ++ y :: q).toArray[p.length]? = some y := by simp
  have hf : Builtin.List.listFitsIndex i = true := fitsIndex_of (by omega) (by rw [List.length_append] at hz; omega)
  have hk : seqIndex? i (p ++ y :: q).toArray.size = some p.length := by
    unfold seqIndex?
    have h0 : ¬ i < 0 := by omega
    simp [h0]
    omega
  clear hi
  refine call_meets PySem.F.slot_list_pop ⟨_, ho, rfl⟩ PySem.F.entry_list_pop (PySem.F.args_list_pop_2 _ _) (PySem.MeetsSeq.list_pop_at D _ n _ t _ y hf hk hy hz') ⟨ho, h _ ?_⟩
  have q' := PySem.IsL.update ho (fun its => its.eraseIdxIfInBounds p.length)
  rw [kl_erase p q y] at q'
  exact S.updAt u (Heap.SameBut.update ..) q' ⟨_, rfl⟩ s.toks
end
end
end Mine
end
section
open PySem PySem.W PyProof.Rows PySem.Calls
set_option Elab.async false
set_option maxRecDepth 100000
set_option maxHeartbeats 4000000
namespace Mine
noncomputable section
/-! ## for over the keys of a dict that stands frozen -/
noncomputable def KIterO (d : Addr) (n ep : Nat) (i : Nat) (o : Obj) : Prop := o.cls = .type "dict_keyiterator" ∧ o.data = .fields #[.ref d, .int i 0, .int n 0, .int ep 0]
theorem dAt_sub {w : World} {F F' : Heap} {d : Addr} {kvs : List (Int × Value)} {ep : Nat} (x : F.DictAt (intKind pg w) d kvs ep) (k : Sub F F') : F'.DictAt (intKind pg w) d kvs ep := x.keep k
structure Fz (w : World) (F : Heap) (X : SX) (ns : List Nd) (ep : Nat) : Prop where
  inst : F.get? X.x = some (instObj 166 X.dx)
  att : ∃ rv pv fv o, F.get? X.dx = some o ∧ AttO (sAtt X rv pv fv) o
  lo : (X.d == sysModules) = false
  dic : F.DictAt (intKind pg w) X.d (ndKvs ns) ep
  slo : ∀ n ∈ ns, (∃ o, F.get? n.x = some o ∧ SlO 69 n.dx n.sl o) ∧ ∃ od, F.get? n.dx = some od
  lst : ∀ n ∈ ns, F.IsList n.l (intsV n.su).toArray
  nd : (ns.map (·.k)).Nodup
  few : ns.length ≤ 100
  up : ∀ n ∈ ns, ∀ p ∈ n.su, n.k < p.1 ∧ has ns p.1
  sul : ∀ n ∈ ns, n.su.length ≤ 1000
theorem Fz.sub {w : World} {F F' : Heap} {X : SX} {ns : List Nd} {ep : Nat} (h : Fz w F X ns ep) (k : Sub F F') : Fz w F' X ns ep :=
  ⟨k _ _ h.inst, let ⟨a, b, c, o, e, q⟩ := h.att; ⟨a, b, c, o, k _ _ e, q⟩, h.lo, dAt_sub h.dic k, fun n hn => let ⟨⟨o, e, q⟩, od, e'⟩ := h.slo n hn; ⟨⟨o, k _ _ e, q⟩, od, k _ _ e'⟩, fun n hn => isL_sub (h.lst n hn) k, h.nd, h.few, h.up, h.sul⟩
section
variable {B : Shared} {F F' : Heap} {own own' : Own} {s : Shared} {w : World} {A : Around} {E : Value → Shared → Prop} {env : Env} {m : Str → Option Value} {P P' : Obj → Prop}
theorem r_loopD {target : Expr} {body : List Stmt} {d : Addr} {kvs : List (Int × Value)} {ep : Nat} {Q : Flow → Shared → Prop} (hh : A.handled = none) (lo : (d == sysModules) = false)
    (I : Nat → Heap → (Str → Option Value) → Own → Prop) (S : St B F ((env.locals, NsO m) :: own) s) (hL : F.DictAt (intKind pg w) d kvs ep) (h0 : I 0 F m own)
    (hl : ∀ i F₁ m₁ own₁, I i F₁ m₁ own₁ → Sub F F₁)
    (turn : ∀ it i k v t F₁ m₁ own₁ s₁, kvs[i]? = some (k, v) → I i F₁ m₁ own₁ → St B F₁ ((env.locals, NsO m₁) :: (it, KIterO d kvs.length ep (i + 1)) :: own₁) s₁ →
      wpAny (model pg w) A (assign target env (.int k t)) (fun _ s₂ => wpAny (model pg w) A (execs body env) (fun f s₃ => match f with
        | .next | .cont => ∃ F₂ m₂ own₂, I (i + 1) F₂ m₂ own₂ ∧ St B F₂ ((env.locals, NsO m₂) :: (it, KIterO d kvs.length ep (i + 1)) :: own₂) s₃
        | .brk => Q .next s₃
        | .ret v => Q (.ret v) s₃) (fun _ _ => False) s₂) (fun _ _ => False) s₁)
    (fin : ∀ F₁ m₁ own₁ s₁, I kvs.length F₁ m₁ own₁ → St B F₁ ((env.locals, NsO m₁) :: own₁) s₁ → Q .next s₁) :
    wpAny (model pg w) A (pyIter (.ref d)) (fun it s₂ => codeAny (model pg w) A (.forLoop target it body [] env) (fun r s' => match r with | .ok f => Q f s' | .error e => cameBackBy (model pg w) A env E e s') s₂) E s := by
  refine wpAny_pyIter_dict (knd := intKind pg w) lo (dAt_sub hL S.fz) ?_
  have S₁ := (S.alloc (P := KIterO d kvs.length ep 0) (o := { cls := .type "dict_keyiterator", data := .fields #[.ref d, .int 0 0, .int kvs.length 0, .int ep 0] }) rfl ⟨rfl, rfl⟩).swap
  generalize s.heap.objs.size = it at S₁ ⊢
  refine codeAny_forLoop_any (fun n s' => ∃ i F₁ m₁ own₁, I i F₁ m₁ own₁ ∧ St B F₁ ((env.locals, NsO m₁) :: (it, KIterO d kvs.length ep i) :: own₁) s' ∧ i ≤ kvs.length ∧ n = kvs.length + 1 - i) ?_ (kvs.length + 1) ⟨0, F, m, own, h0, S₁, Nat.zero_le _, rfl⟩
  intro n s' hOb1
  obtain ⟨i, F₁, m₁, own₁, hI, S', hi', rfl⟩ := hOb1
  have hD := dAt_sub hL ((hl _ _ _ _ hI).trans S'.fz)
  have hit : s'.heap.IsKeyIter it d i kvs.length ep := by obtain ⟨o, e, q⟩ := S'.swap.head; exact ⟨o, e, q.1, q.2⟩
  cases hv : kvs[i]? with
  | none =>
    have hsz : i = kvs.length := Nat.le_antisymm hi' (by simpa using hv)
    subst hsz
    refine wpAny_pyNext_dict_end hh hit hD hv fun h₁ he₁ => wpAny_execs_nil ?_
    exact fin _ _ _ _ hI (S'.swap.updExt he₁ s'.toks)
  | some kv =>
    obtain ⟨k, v⟩ := kv
    have hlt : i < kvs.length := (List.getElem?_eq_some_iff.mp hv).1
    refine wpAny_pyNext_dict_item hit hD hv fun key h₁ hkey hit₁ hs₁ => ?_
    obtain ⟨t, rfl⟩ := Value.isInt_shape hkey
    obtain ⟨o₁, e₁, q₁⟩ := hit₁
    have S₁ := (S'.swap.upd (P' := KIterO d kvs.length ep (i + 1)) hs₁ e₁ q₁ s'.toks).swap
    refine letGo_iter (n := "dict_keyiterator") e₁ q₁.1 (by decide) ?_
    refine wpAny_mono (turn it i k v t F₁ m₁ own₁ _ hv hI S₁) (fun _ s₂ h₂ => ?_) (fun _ _ x => x.elim)
    refine wpAny_mono h₂ (fun f s₃ h₃ => ?_) (fun _ _ x => x.elim)
    cases f with
    | next => obtain ⟨F₂, m₂, own₂, a, b⟩ := h₃; exact ⟨kvs.length + 1 - (i + 1), by omega, i + 1, F₂, m₂, own₂, a, b, hlt, rfl⟩
    | cont => obtain ⟨F₂, m₂, own₂, a, b⟩ := h₃; exact ⟨kvs.length + 1 - (i + 1), by omega, i + 1, F₂, m₂, own₂, a, b, hlt, rfl⟩
    | brk => exact h₃
    | ret v => exact h₃
end
/-! ### the stack -/
structure Fk where
  k : Nat
  t : Tok
  it : Addr
  u : Addr
  l : Addr
  pos : Nat
  su : List (Nat × Tok)
noncomputable def fkIts (fs : List Fk) : Own := fs.map fun f => (f.it, IterO f.l f.pos)
structure FkOk (F : Heap) (ns : List Nd) (fs : List Fk) : Prop where
  up : fs.Pairwise fun a b => a.k < b.k
  mem : ∀ f ∈ fs, F.get? f.u = some (mwObj f.it) ∧ ∃ n ∈ ns, n.k = f.k ∧ n.l = f.l ∧ n.su = f.su
noncomputable def mu (ns : List Nd) (S : Int → Bool) (fs : List Fk) : Nat := (ns.map fun n => if S n.k then 0 else n.su.length + 2).sum + (fs.map fun f => f.su.length - f.pos + 1).sum
noncomputable def fdFcS : {x : FuncData // fdAt P0 156 = x} := by
  refine' ⟨_, _⟩
  rotate_left
  conv => lhs; whnf
noncomputable def fdFc : FuncData := fdFcS.1
end
end Mine
end
section
open PySem PySem.W PyProof.Rows PySem.Calls
set_option Elab.async false
set_option maxRecDepth 100000
set_option maxHeartbeats 4000000
namespace Mine
noncomputable section
theorem sum_seen {ns : List Nd} {sn : Int → Bool} {k : Nat} {n : Nd} (wt : Nd → Nat) (hn : n ∈ ns) (hk : n.k = k) (hs : sn k = false) :
    (ns.map fun a => if (sn a.k || decide ((a.k : Int) = k)) = true then 0 else wt a).sum + wt n ≤ (ns.map fun a => if sn a.k = true then 0 else wt a).sum := by
  have mono : ∀ l : List Nd, (l.map fun a => if (sn a.k || decide ((a.k : Int) = k)) = true then 0 else wt a).sum ≤ (l.map fun a => if sn a.k = true then 0 else wt a).sum := by
    intro l
    induction l with
    | nil => simp
    | cons a l ih =>
      simp only [List.map_cons, List.sum_cons]
      have : (if (sn a.k || decide ((a.k : Int) = k)) = true then 0 else wt a) ≤ (if sn a.k = true then 0 else wt a) := by
        cases sn a.k <;> simp <;> split <;> omega
      omega
  induction ns with
  | nil => cases hn
  | cons a l ih =>
    simp only [List.map_cons, List.sum_cons]
    rcases List.mem_cons.mp hn with rfl | hn
    · have h1 := mono l
      have e1 : (if (sn n.k || decide ((n.k : Int) = k)) = true then 0 else wt n) = 0 := by rw [hk]; simp
      have e2 : (if sn n.k = true then 0 else wt n) = wt n := by rw [hk, hs]; simp
      rw [e1, e2]; omega
    · have h1 := ih hn
      have : (if (sn a.k || decide ((a.k : Int) = k)) = true then 0 else wt a) ≤ (if sn a.k = true then 0 else wt a) := by
        cases sn a.k <;> simp <;> split <;> omega
      omega
theorem ones_sum (ns : List Nd) : (ns.map fun _ => 1).sum = ns.length := by
  induction ns with
  | nil => rfl
  | cons a l ih => rw [List.map_cons, List.sum_cons, ih, List.length_cons]; omega
noncomputable abbrev fcO (w : World) (SK IK SE NS : Addr) (fs : List Fk) (sn : Int → Bool) (c : Nat) (kvs : List (Int × Value)) (own : Own) : Own :=
  (SK, ListO (fs.map fun f => Value.int f.k f.t)) :: (IK, ListO (fs.map fun f => Value.ref f.u)) :: (SE, SetO w sn c) :: (NS, DicO w kvs) :: (fkIts fs ++ own)
structure FcN (X : SX) (SK IK SE NS : Addr) (m : Str → Option Value) : Prop where
  n2i : m "n2i" = some (.ref X.d)
  st : m "stack" = some (.ref SK)
  it : m "itstack" = some (.ref IK)
  se : m "seen" = some (.ref SE)
  ns : m "node2stacki" = some (.ref NS)
theorem FkOk.sub {F F' : Heap} {ns : List Nd} {fs : List Fk} (h : FkOk F ns fs) (k : Sub F F') : FkOk F' ns fs := ⟨h.up, fun f hf => let ⟨a, b⟩ := h.mem f hf; ⟨k _ _ a, b⟩⟩
section
variable {B : Shared} {F F' : Heap} {own own' : Own} {s : Shared} {w : World} {A : Around} {E : Value → Shared → Prop} {env : Env} {m : Str → Option Value} {P P' : Obj → Prop}
theorem r_getList {D : Addr} {xs : List Value} {name : Str} {id : String} {pl : Sem Bool} {Q : Value × List Value → Shared → Prop} (S : St B F own s) (hm : (D, ListO xs) ∈ own) (slot : Slot "list" name id) (hty : typeOf (.builtin id) = pure (.type "method_descriptor"))
    (h : Q (.builtin id, [.ref D]) s) : wpAny (model pg w) A (getMethod (.ref D) name pl) Q E s := by
  obtain ⟨o, e, n, rfl⟩ := S.mem hm
  exact getMethod_builtin ⟨_, e, rfl⟩ PySem.F.plainAttrs_list slot hty (fun a z => by cases z; exact ⟨_, e, rfl⟩) h
theorem tail_last {value slice : Expr} {l : Addr} {xs : List Value} {t : Tok} {v : Value} {Q : Value → Shared → Prop} (hl : s.heap.IsList l (xs ++ [v]).toArray) (h : Q v s)
    (hs : subscripted slice false (.ref l) (.int (-1) t) = operate [.ref l, .int (-1) t] (getItem (.ref l) (.int (-1) t)) := by rfl) : wpAny (model pg w) A (subscriptTail value slice (.ref l) (.int (-1) t)) Q E s :=
  tail_any hl.typeIs slot_list_getitem.lookup (wpAny_getItem_list_neg hl (by decide) (by rw [List.size_toArray, List.length_append]; simp; omega) (by decide) (by
    rw [List.size_toArray, List.length_append]
    have : ((-1 : Int) + ((xs.length + [v].length : Nat) : Int)).toNat = xs.length := by simp; omega
    rw [this]; simp) h) hs

theorem fc_spec {X : SX} {ns : List Nd} {ep : Nat} {outer : List Env} {Q : Value → Shared → Prop} (S : St B F own s) (hB : Bs w F) (hA : Rm 6 A) (hZ : Fz w F X ns ep) (hfr : A.frames = some outer) (hFm : Fm outer own)
    (h : ∀ F' s', Sub F F' → St B F' own s' → Q .none s') :
    wpAny (model pg w) A (call (.ref 156) [.ref X.x]) Q E s := by
  refine r_enterP (k := 5) (fd := fdFc) S hB hA rfl rfl rfl rfl (by decide) (locs rfl) fun L s₁ S₁ hA₁ => ?_
  obtain ⟨rv, pv, fv, oat, hat, hatt⟩ := hZ.att
  have hfr₁ : (A.deeper (fenv fdFc L 156)).frames = some (fenv fdFc L 156 :: outer) := by unfold Around.deeper; simp only [hfr]; rfl
  refine wpAny_execs_cons (wpAny_Assign_Name (Attribute_any_ (r_local S₁ rfl (r_getA S₁ hB hZ.inst ⟨oat, S₁.fz _ _ hat, hatt⟩ rfl (by rfl) (by rfl) (by rfl) rfl fun s₂ S₂ => r_store S₂ fun s₃ S₃ => ?_))))
  refine wpAny_execs_cons (wpAny_Assign_Name (r_ListO (args_nil ⟨_, _, _, S₃, by simp, fun SK s₄ S₄ => r_store S₄.swap fun s₅ S₅ => ?_⟩)))
  refine wpAny_execs_cons (wpAny_Assign_Name (r_ListO (args_nil ⟨_, _, _, S₅, by simp, fun IK s₆ S₆ => r_store S₆.swap fun s₇ S₇ => ?_⟩)))
  refine wpAny_execs_cons (wpAny_Assign_Name (Call_ (r_builtin (v := .type "set") S₇ hB rfl (by kernel_rfl) (by decide) (PyProof.Rows.callWith_type rfl (evalArgs_nil3 (call_set_0 fun led => ?_))))))
  have S₈ := (S₇.alloc (P := SetO w (fun _ => false) 0) (o := { cls := .type "set", dict := none, data := .set #[] 0 (.fresh 0 0 led) }) rfl ⟨#[], 0, _, ⟨rfl, rfl, rfl⟩, rfl, fun e he => by simp at he, fun k => by simp, by decide, by rfl, rfl⟩).swap
  generalize s₇.heap.objs.size = SE at S₈ ⊢
  refine r_store S₈ fun s₉ S₉ => ?_
  refine wpAny_execs_cons (wpAny_Assign_Name ?_)
  rw [eval_Dict_empty]
  refine wpAny_bind (wpAny_standAt (wpAny_newObj_type ?_))
  have hlo : (s₉.heap.objs.size == sysModules) = false := by
    have := modules_low (bs_nolimit (hB.sub S₉.fz))
    rw [beq_eq_false_iff_ne]
    exact Nat.ne_of_gt this
  have S₁₀ := (S₉.alloc (P := DicO w []) (o := { cls := .type "dict", data := .dict #[] }) rfl ⟨#[], 0, ⟨rfl, rfl, rfl⟩, rfl, (fun e he => by simp at he), .nil, by simp⟩).swap
  generalize s₉.heap.objs.size = NS at S₁₀ hlo ⊢
  refine r_store S₁₀ fun s₁₁ S₁₁ => ?_
  obtain ⟨m₁, S11, hN⟩ : ∃ m₁ : Str → Option Value, St B F ((L, NsO m₁) :: fcO w SK IK SE NS [] (fun _ => false) 0 [] own) s₁₁ ∧ FcN X SK IK SE NS m₁ := by
    have rv4 : ∀ (a b c d : Addr × (Obj → Prop)) (l : Own), (a :: b :: c :: d :: l).Perm (d :: c :: b :: a :: l) := fun a b c d l => by
      have := (List.reverse_perm [a, b, c, d]).symm.append_right l
      simpa using this
    exact ⟨_, S₁₁.perm (List.Perm.cons _ (rv4 _ _ _ _ _)), ⟨rfl, rfl, rfl, rfl, rfl⟩⟩
  clear S₁ S₂ S₃ S₄ S₅ S₆ S₇ S₈ S₉ S₁₀ S₁₁
  refine wpAny_execs_cons (wpAny_For (r_local (env := fenv fdFc L 156) S11 hN.n2i ?_))
  refine r_loopD (env := fenv fdFc L 156) (kvs := ndKvs ns) (ep := ep) hA₁.hd hZ.lo
    (fun i F₁ m₁ own₁ => ∃ sn c, own₁ = fcO w SK IK SE NS [] sn c [] own ∧ Sub F F₁ ∧ FcN X SK IK SE NS m₁ ∧ c + (ns.map fun a => if sn a.k = true then 0 else 1).sum ≤ ns.length)
    S11 hZ.dic ⟨fun _ => false, 0, rfl, Sub.refl _, hN, by simpa using Nat.le_of_eq (ones_sum ns)⟩ (fun i F₁ m₁ own₁ hI => by obtain ⟨_, _, _, hs, _⟩ := hI; exact hs) ?_ ?_
  · intro kit i k v t F₁ m₁ own₁ s₁ hv hOb1 S₁
    refine gen_turn fun Q₁ E₁ E₁' hQ₁ => ?_
    obtain ⟨sn, c, rfl, hsub, hN, hc⟩ := hOb1
    obtain ⟨n, hn, rfl⟩ : ∃ n ∈ ns, ((n.k : Nat) : Int) = k := by
      have := List.mem_of_getElem? hv
      obtain ⟨n, hn, e⟩ := List.mem_map.mp this
      exact ⟨n, hn, congrArg Prod.fst e⟩
    refine wpAny_assign_Name (r_store (env := fenv fdFc L 156) S₁ fun s₂ S₂ => ?_)
    obtain ⟨m₂, S2, hN, hnode⟩ : ∃ m₂ : Str → Option Value, St B F₁ ((L, NsO m₂) :: (kit, KIterO X.d (ndKvs ns).length ep (i + 1)) :: fcO w SK IK SE NS [] sn c [] own) s₂ ∧ FcN X SK IK SE NS m₂ ∧ m₂ "node" = some (.int n.k t) :=
      ⟨_, S₂, ⟨hN.n2i, hN.st, hN.it, hN.se, hN.ns⟩, rfl⟩
    clear S₁ S₂
    refine wpAny_execs_cons (wpAny_If (wpAny_isTrue_Compare1 (r_local (env := fenv fdFc L 156) S2 hnode (r_local (env := fenv fdFc L 156) S2 hN.se (r_inSet (S := sn) (n := c) (k := (n.k : Int)) S2 (.tail _ (.tail _ (.tail _ (.tail _ (.head _))))) fun s₃ S₃ => wpAny_truthy_bool ?_)))))
    cases hsk : sn n.k with
    | true =>
      rw [if_pos rfl]
      refine wpAny_execs_cons (wpAny_Continue ?_)
      exact hQ₁ _ _ ⟨F₁, m₂, _, ⟨sn, c, rfl, hsub, hN, hc⟩, S₃⟩
    | false =>
      rw [if_neg (by decide)]
      refine wpAny_execs_nil ?_
      refine wpAny_execs_cons (wpAny_While ?_)
      refine codeAny_whileLoop (fun M s' => ∃ F₃ m₃ fs sn' c' kvs k' t', Sub F F₃ ∧ FcN X SK IK SE NS m₃ ∧ m₃ "node" = some (.int ((k' : Nat) : Int) t') ∧ has ns k' ∧ FkOk F₃ ns fs ∧ (∀ f ∈ fs, f.k < k') ∧ kvs.map (·.1) = fs.map (fun f => (f.k : Int)) ∧
        c' + (ns.map fun a => if sn' a.k = true then 0 else 1).sum ≤ ns.length ∧ mu ns sn' fs ≤ M ∧ fs.length ≤ c' ∧ St B F₃ ((L, NsO m₃) :: (kit, KIterO X.d (ndKvs ns).length ep (i + 1)) :: fcO w SK IK SE NS fs sn' c' kvs own) s') ?_ (mu ns sn [])
        ⟨F₁, m₂, [], sn, c, [], n.k, t, hsub, hN, hnode, ⟨n, hn, rfl⟩, ⟨.nil, fun f hf => by cases hf⟩, (fun f hf => by cases hf), rfl, hc, Nat.le_refl _, Nat.zero_le _, S₃⟩
      intro M s₄ hOb2
      obtain ⟨F₃, m₃, fs, sn', c', kvs, k', t', hs₃, hN₃, hnode₃, hk', hfs, hlt, hkv, hc', hmu, hfl, S₄⟩ := hOb2
      have hB₃ := hB.sub hs₃
      have hZ₃ := hZ.sub hs₃
      refine wpAny_isTrue_value (wpAny_Constant_bool (wpAny_truthy_bool ?_))
      rw [if_pos rfl]
      refine gen_post fun Q₂ E₂ hQ₂ => ?_
      refine wpAny_execs_cons (wpAny_mono (Q := fun f s₅ => f = .next ∧ ∃ F₅ fs₅ sn₅ c₅ kvs₅, Sub F F₅ ∧ FkOk F₅ ns fs₅ ∧ (∀ f ∈ fs₅, f.k ≤ k') ∧ kvs₅.map (·.1) = fs₅.map (fun f => (f.k : Int)) ∧ c₅ + (ns.map fun a => if sn₅ a.k = true then 0 else 1).sum ≤ ns.length ∧ mu ns sn₅ fs₅ ≤ M ∧ fs₅.length ≤ c₅ ∧
          St B F₅ ((L, NsO m₃) :: (kit, KIterO X.d (ndKvs ns).length ep (i + 1)) :: fcO w SK IK SE NS fs₅ sn₅ c₅ kvs₅ own) s₅) ?_ (fun f s₅ hf => ?_) (fun _ _ x => x))
      · refine gen_post fun Q₃ E₃ hQ₃ => ?_
        refine wpAny_If (wpAny_isTrue_Compare1 (r_local (env := fenv fdFc L 156) S₄ hnode₃ (r_local (env := fenv fdFc L 156) S₄ hN₃.se (r_inSet (S := sn') (n := c') (k := (k' : Int)) S₄ (.tail _ (.tail _ (.tail _ (.tail _ (.head _))))) fun s₅ S₅ => wpAny_truthy_bool ?_))))
        have hnk : (k' : Int) ∉ kvs.map (·.1) := by
          rw [hkv]
          intro hm
          obtain ⟨f, hf, e⟩ := List.mem_map.mp hm
          have := hlt f hf
          omega
        cases hsk' : sn' k' with
        | true =>
          rw [if_pos rfl]
          refine wpAny_execs_cons (wpAny_If (wpAny_isTrue_Compare1 (r_local (env := fenv fdFc L 156) S₅ hnode₃ (r_local (env := fenv fdFc L 156) S₅ hN₃.ns (r_inDict (kvs := kvs) S₅ (.tail _ (.tail _ (.tail _ (.tail _ (.tail _ (.head _)))))) hlo hnk fun s₆ S₆ => wpAny_truthy_bool ?_)))))
          rw [if_neg (by decide)]
          refine wpAny_execs_nil (wpAny_execs_nil (hQ₃ _ _ ⟨rfl, F₃, fs, sn', c', kvs, hs₃, hfs, (fun f hf => Nat.le_of_lt (hlt f hf)), hkv, hc', hmu, hfl, S₆⟩))
        | false =>
          rw [if_neg (by decide)]
          obtain ⟨n', hn', rfl⟩ := hk'
          have h1 := sum_seen (fun _ => 1) hn' rfl hsk'
          have h2 := sum_seen (fun a => a.su.length + 2) hn' rfl hsk'
          have hfew := hZ.few
          have hset := set_of (w := w) (S₅.mem (a := SE) (P := SetO w sn' c') (.tail _ (.tail _ (.tail _ (.tail _ (.head _))))))
          refine wpAny_execs_cons (wpAny_Expr (methodCall_KW (r_local (env := fenv fdFc L 156) S₅ hN₃.se (getMethod_set_add hset (r_CWb (args_cons (r_local (env := fenv fdFc L 156) S₅ hnode₃ (args_nil (r_addSet S₅ (.tail (.tail (.tail (.tail .head)))) hsk' (by unfold scanBound; omega) fun s₆ S₆ => ?_)))))))) rfl rfl)
          -- itstack.append(iter(n2i[node].successors).__next__)
          have hD := (dAt_sub hZ₃.dic S₆.fz).dictOf
          obtain ⟨⟨on, en, qn⟩, od, eod⟩ := hZ₃.slo n' hn'
          refine wpAny_execs_cons (r_append (r_local (env := fenv fdFc L 156) S₆ hN₃.it ⟨IK, _, rfl, S₆.mem (.tail _ (.tail _ (.tail _ (.head _)))), ?_⟩))
          refine Attribute_any_ (r_CallB S₆ hB₃ rfl (by boot_fast) (by decide) (args_cons (Attribute_any_ (Subscript_ (r_local (env := fenv fdFc L 156) S₆ hN₃.n2i (r_local (env := fenv fdFc L 156) S₆ hnode₃ ?_))))))
          refine tail_any hD.typeIs slot_dict_getitem.lookup (wpAny_getItem_of (knd := intKind pg w) (intIs _ _) hD.mapOf (vat_mem hZ.nd hn') ?_) rfl
          have S₇ := S₆.tok (s₆.toks + 1)
          refine r_getS S₇ hB₃ ⟨on, S₇.fz _ _ en, qn⟩ eod (by rfl) (by rfl) (v := .ref n'.l) (by rfl) (by rfl) (by rfl) (by rfl) (by rfl) (by rfl) fun s₈ S₈ => args_nil ?_
          refine iter_list (isL_sub (hZ₃.lst n' hn') S₈.fz) ?_
          have S₉ := S₈.alloc (P := IterO n'.l 0) (o := { cls := .type "list_iterator", data := .fields #[.ref n'.l, .int 0 0] }) rfl ⟨rfl, rfl⟩
          have hit : (s₈.heap.push { cls := .type "list_iterator", data := .fields #[.ref n'.l, .int 0 0] }).get? s₈.heap.objs.size = some { cls := .type "list_iterator", data := .fields #[.ref n'.l, .int 0 0] } := Heap.get?_push_size _ rfl
          generalize s₈.heap.objs.size = it at S₉ hit ⊢
          refine r_nextAttr S₉ hit fun F₆ u s₁₀ hs₆ S₁₀ hu _ => ?_
          refine ⟨B, F₆, _, _, _, S₁₀, .tail (.tail (.tail (.tail .head))), ?_, fun s₁₁ S₁₁ => ?_⟩
          · rw [List.length_map]; exact Nat.le_trans (by omega : fs.length ≤ 100) (by decide +kernel)
          have S₁₂ : St B F₆ ((L, NsO m₃) :: (kit, KIterO X.d (ndKvs ns).length ep (i + 1)) :: (SK, ListO (fs.map fun f => Value.int f.k f.t)) :: (IK, ListO (fs.map (fun f => Value.ref f.u) ++ [.ref u])) :: (SE, SetO w (fun x => sn' x || decide (x = (n'.k : Int))) (c' + 1)) :: (NS, DicO w kvs) :: ((fkIts fs ++ [(it, IterO n'.l 0)]) ++ own)) s₁₁ := by
            refine S₁₁.perm ?_
            have pp : ∀ (x : Addr × (Obj → Prop)) (pre l1 l2 : Own), (pre ++ ((l1 ++ [x]) ++ l2)).Perm (x :: (pre ++ (l1 ++ l2))) := fun x pre l1 l2 => by
              have h1 : (l1 ++ [x]).Perm (x :: l1) := by simpa using List.perm_append_comm (l₁ := l1) (l₂ := [x])
              have h2 := (h1.append_right l2).append_left pre
              refine h2.trans ?_
              have h3 : (pre ++ (x :: (l1 ++ l2))).Perm (x :: (pre ++ (l1 ++ l2))) := List.perm_middle
              simpa using h3
            exact pp _ [_, _, _, _, _, _] _ _
          clear S₆ S₇ S₈ S₉ S₁₀ S₁₁
          have hB₆ := hB₃.sub hs₆
          refine wpAny_execs_cons (wpAny_Assign_Subscript (r_CallB S₁₂ hB₆ rfl (by boot_fast) (by decide) (args_cons (r_local (env := fenv fdFc L 156) S₁₂ hN₃.st (args_nil ?_)))))
          refine r_len S₁₂ (list_of (S₁₂.mem (a := SK) (.tail _ (.tail _ (.head _))))) (by rw [List.length_map]; omega) fun tl s₁₃ S₁₃ => ?_
          refine r_local (env := fenv fdFc L 156) S₁₃ hN₃.ns (r_local (env := fenv fdFc L 156) S₁₃ hnode₃ ?_)
          have hkl : kvs.length = fs.length := by have := congrArg List.length hkv; simpa using this
          refine r_setDict S₁₃ (.tail (.tail (.tail (.tail (.tail .head))))) hnk (by rw [hkl]; exact Nat.le_trans (by omega : fs.length ≤ 100) (by decide +kernel)) fun s₁₄ S₁₄ => ?_
          refine wpAny_execs_cons (r_append (r_local (env := fenv fdFc L 156) S₁₄ hN₃.st ⟨SK, _, rfl, S₁₄.mem (.tail _ (.tail _ (.head _))), r_local (env := fenv fdFc L 156) S₁₄ hnode₃ ⟨B, F₆, _, _, _, S₁₄, .tail (.tail .head), ?_, fun s₁₅ S₁₅ => ?_⟩⟩))
          · rw [List.length_map]; exact Nat.le_trans (by omega : fs.length ≤ 100) (by decide +kernel)
          let f : Fk := ⟨n'.k, t', it, u, n'.l, 0, n'.su⟩
          refine wpAny_execs_nil (hQ₃ _ _ ⟨rfl, F₆, fs ++ [f], (fun x => sn' x || decide (x = (n'.k : Int))), c' + 1, kvs ++ [((n'.k : Int), Value.int (((fs.map fun f => Value.int f.k f.t).length : Nat) : Int) tl)], hs₃.trans hs₆, ⟨?_, ?_⟩, ?_, ?_, ?_, ?_, ?_, ?_⟩)
          · rw [List.pairwise_append]
            refine ⟨hfs.up, by simp, ?_⟩
            intro a ha b hb
            rw [List.mem_singleton.mp hb]
            exact hlt a ha
          · intro g hg
            rcases List.mem_append.mp hg with hg | hg
            · exact (hfs.sub hs₆).mem g hg
            · rw [List.mem_singleton.mp hg]
              exact ⟨hu, n', hn', rfl, rfl, rfl⟩
          · intro g hg
            rcases List.mem_append.mp hg with hg | hg
            · exact Nat.le_of_lt (hlt g hg)
            · rw [List.mem_singleton.mp hg]; exact Nat.le_refl _
          · rw [List.map_append, List.map_append, hkv]; rfl
          · have h1' : (ns.map fun a => if (sn' a.k || decide ((a.k : Int) = n'.k)) = true then 0 else 1).sum + 1 ≤ (ns.map fun a => if sn' a.k = true then 0 else 1).sum := h1
            show c' + 1 + (ns.map fun a => if (sn' a.k || decide ((a.k : Int) = n'.k)) = true then 0 else 1).sum ≤ ns.length
            omega
          · have h2' : (ns.map fun a => if (sn' a.k || decide ((a.k : Int) = n'.k)) = true then 0 else a.su.length + 2).sum + (n'.su.length + 2) ≤ (ns.map fun a => if sn' a.k = true then 0 else a.su.length + 2).sum := h2
            unfold mu at hmu ⊢
            rw [List.map_append, List.sum_append]
            show (ns.map fun a => if (sn' a.k || decide ((a.k : Int) = n'.k)) = true then 0 else a.su.length + 2).sum + ((fs.map fun f => f.su.length - f.pos + 1).sum + ([n'.su.length - 0 + 1].sum)) ≤ M
            simp only [List.sum_cons, List.sum_nil]
            omega
          · rw [List.length_append]; simp; exact hfl
          · have e1 : (fs ++ [f]).map (fun f => Value.int f.k f.t) = fs.map (fun f => Value.int f.k f.t) ++ [.int n'.k t'] := by rw [List.map_append]; rfl
            have e2 : (fs ++ [f]).map (fun f => Value.ref f.u) = fs.map (fun f => Value.ref f.u) ++ [.ref u] := by rw [List.map_append]; rfl
            have e3 : fkIts (fs ++ [f]) = fkIts fs ++ [(it, IterO n'.l 0)] := by unfold fkIts; rw [List.map_append]; rfl
            unfold fcO
            rw [e1, e2, e3]
            exact S₁₅
      · obtain ⟨rfl, F₅, fs₅, sn₅, c₅, kvs₅, hs₅, hfs₅, hle₅, hkv₅, hc₅, hmu₅, hfl₅, S₅⟩ := hf
        have hfew := hZ.few
        refine wpAny_execs_cons (wpAny_While ?_)
        refine codeAny_whileLoop (fun N s' => ∃ F₆ m₆ fs₆ kvs₆, N = fs₆.length ∧ Sub F F₆ ∧ FcN X SK IK SE NS m₆ ∧ FkOk F₆ ns fs₆ ∧ kvs₆.map (·.1) = fs₆.map (fun f => (f.k : Int)) ∧ mu ns sn₅ fs₆ ≤ M ∧ fs₆.length ≤ c₅ ∧
          St B F₆ ((L, NsO m₆) :: (kit, KIterO X.d (ndKvs ns).length ep (i + 1)) :: fcO w SK IK SE NS fs₆ sn₅ c₅ kvs₆ own) s') ?_ fs₅.length ⟨F₅, m₃, fs₅, kvs₅, rfl, hs₅, hN₃, hfs₅, hkv₅, hmu₅, hfl₅, S₅⟩
        intro N s₆ hOb3
        obtain ⟨F₆, m₆, fs₆, kvs₆, rfl, hs₆, hN₆, hfs₆, hkv₆, hmu₆, hfl₆, S₆⟩ := hOb3
        have hB₆ := hB.sub hs₆
        have hZ₆ := hZ.sub hs₆
        refine wpAny_isTrue_value (r_local (env := fenv fdFc L 156) S₆ hN₆.st (wpAny_truthy_list (list_of (S₆.mem (a := SK) (.tail _ (.tail _ (.head _))))) (by rw [List.size_toArray, List.length_map]; omega) ?_))
        have S₇ := S₆.tok (s₆.toks + 1 + 1)
        rcases List.eq_nil_or_concat fs₆ with rfl | ⟨pre, f, rfl⟩
        · rw [if_neg (by simp)]
          refine wpAny_execs_cons (wpAny_Break ?_)
          cases kvs₆ with
          | cons a l => cases hkv₆
          | nil => exact hQ₂ _ _ (wpAny_execs_nil (hQ₁ _ _ ⟨F₆, m₆, _, ⟨sn₅, c₅, rfl, hs₆, hN₆, hc₅⟩, S₇⟩))
        · rw [List.concat_eq_append] at *
          rw [if_pos (by simp)]
          refine gen_post fun Q₄ E₄ hQ₄ => ?_
          obtain ⟨hu, nf, hnf, e1, e2, e3⟩ := hfs₆.mem f (by simp)
          have es : (pre ++ [f]).map (fun f => Value.int f.k f.t) = pre.map (fun f => Value.int f.k f.t) ++ [.int f.k f.t] := by rw [List.map_append]; rfl
          have eu : (pre ++ [f]).map (fun f => Value.ref f.u) = pre.map (fun f => Value.ref f.u) ++ [.ref f.u] := by rw [List.map_append]; rfl
          have ei : fkIts (pre ++ [f]) = fkIts pre ++ [(f.it, IterO f.l f.pos)] := by unfold fkIts; rw [List.map_append]; rfl
          unfold fcO at S₇
          rw [es, eu, ei] at S₇
          have hll : F₆.IsList f.l (intsV f.su).toArray := by rw [← e2, ← e3]; exact hZ₆.lst nf hnf
          refine wpAny_execs_cons (r_try hfr₁ rfl ?_)
          refine wpAny_execs_cons (wpAny_Assign_Name (Call_ (Subscript_ (r_local (env := fenv fdFc L 156) S₇ hN₆.it (wpAny_UnaryOp (r_int S₇ fun tm s₈ S₈ => neg_int ?_))))))
          have S₉ := S₈.tok (s₈.toks + 1)
          refine tail_last (list_of (S₉.mem (a := IK) (.tail _ (.tail _ (.tail _ (.head _)))))) ?_
          refine r_cwNext (S₉.fz _ _ hu) ?_
          cases hq : f.su[f.pos]? with
          | some q =>
            have hpl : f.pos < f.su.length := (List.getElem?_eq_some_iff.mp hq).1
            have hup := hZ.up nf hnf q (by rw [e3]; exact List.mem_of_getElem? hq)
            have iu : Upd ((fkIts pre ++ [(f.it, IterO f.l f.pos)]) ++ own) f.it (IterO f.l f.pos) (IterO f.l (f.pos + 1)) ((fkIts pre ++ [(f.it, IterO f.l (f.pos + 1))]) ++ own) := by
              rw [List.append_assoc, List.append_assoc]; exact Upd.app .head _
            refine r_nextItem (i := f.pos) (xs := intsV f.su) (x := .int q.1 q.2) S₉ hu (.tail (.tail (.tail (.tail (.tail (.tail iu)))))) (isL_sub hll S₉.fz) (by unfold intsV; rw [List.getElem?_map, hq]; rfl) fun s₁₀ S₁₀ => ?_
            refine r_store (env := fenv fdFc L 156) S₁₀ fun s₁₁ S₁₁ => ?_
            obtain ⟨m₁₁, S11', hN₁₁, hnode₁₁⟩ : ∃ m₁₁ : Str → Option Value, St B F₆ ((L, NsO m₁₁) :: (kit, KIterO X.d (ndKvs ns).length ep (i + 1)) :: (SK, ListO (pre.map (fun f => Value.int f.k f.t) ++ [.int f.k f.t])) :: (IK, ListO (pre.map (fun f => Value.ref f.u) ++ [.ref f.u])) :: (SE, SetO w sn₅ c₅) :: (NS, DicO w kvs₆) :: ((fkIts pre ++ [(f.it, IterO f.l (f.pos + 1))]) ++ own)) s₁₁ ∧
                FcN X SK IK SE NS m₁₁ ∧ m₁₁ "node" = some (.int ((q.1 : Nat) : Int) q.2) := ⟨fun y => if y = Str.ofString "node" then some (.int ((q.1 : Nat) : Int) q.2) else m₆ y, S₁₁, ⟨hN₆.n2i, hN₆.st, hN₆.it, hN₆.se, hN₆.ns⟩, rfl⟩
            refine wpAny_execs_cons (wpAny_Break ?_)
            have emu : mu ns sn₅ (pre ++ [{ f with pos := f.pos + 1 }]) + 1 = mu ns sn₅ (pre ++ [f]) := by
              unfold mu
              rw [List.map_append, List.map_append, List.sum_append, List.sum_append]
              simp only [List.map_cons, List.map_nil, List.sum_cons, List.sum_nil]
              omega
            refine hQ₄ _ _ (wpAny_execs_nil (hQ₂ _ _ ⟨mu ns sn₅ (pre ++ [{ f with pos := f.pos + 1 }]), by omega, F₆, m₁₁, pre ++ [{ f with pos := f.pos + 1 }], sn₅, c₅, kvs₆, q.1, q.2, hs₆, hN₁₁, hnode₁₁, hup.2, ⟨?_, ?_⟩, ?_, ?_, hc₅, Nat.le_refl _, ?_, ?_⟩))
            · have := hfs₆.up
              rw [List.pairwise_append] at this ⊢
              refine ⟨this.1, by simp, fun a ha b hb => ?_⟩
              rw [List.mem_singleton.mp hb]
              exact this.2.2 a ha f (by simp)
            · intro g hg
              rcases List.mem_append.mp hg with hg | hg
              · exact hfs₆.mem g (List.mem_append_left _ hg)
              · rw [List.mem_singleton.mp hg]
                exact ⟨hu, nf, hnf, e1, e2, e3⟩
            · intro g hg
              have hfk : f.k < q.1 := e1 ▸ hup.1
              rcases List.mem_append.mp hg with hg | hg
              · have := hfs₆.up
                rw [List.pairwise_append] at this
                have := this.2.2 g hg f (by simp)
                omega
              · rw [List.mem_singleton.mp hg]; exact hfk
            · rw [hkv₆, List.map_append, List.map_append]; rfl
            · rw [List.length_append] at hfl₆ ⊢; exact hfl₆
            · have es' : (pre ++ [{ f with pos := f.pos + 1 }]).map (fun f : Fk => Value.int f.k f.t) = pre.map (fun f => Value.int f.k f.t) ++ [.int f.k f.t] := by rw [List.map_append]; rfl
              have eu' : (pre ++ [{ f with pos := f.pos + 1 }]).map (fun f : Fk => Value.ref f.u) = pre.map (fun f => Value.ref f.u) ++ [.ref f.u] := by rw [List.map_append]; rfl
              have ei' : fkIts (pre ++ [{ f with pos := f.pos + 1 }]) = fkIts pre ++ [(f.it, IterO f.l (f.pos + 1))] := by unfold fkIts; rw [List.map_append]; rfl
              unfold fcO
              rw [es', eu', ei']
              exact S11'
          | none =>
            have S₁₀ : St B F₆ ((f.it, IterO f.l f.pos) :: (L, NsO m₆) :: (kit, KIterO X.d (ndKvs ns).length ep (i + 1)) :: (SK, ListO (pre.map (fun f => Value.int f.k f.t) ++ [.int f.k f.t])) :: (IK, ListO (pre.map (fun f => Value.ref f.u) ++ [.ref f.u])) :: (SE, SetO w sn₅ c₅) :: (NS, DicO w kvs₆) :: (fkIts pre ++ own)) { s₈ with toks := s₈.toks + 1 } := by
              refine S₉.perm ?_
              have pp : ∀ (x : Addr × (Obj → Prop)) (pre l1 l2 : Own), (x :: (pre ++ (l1 ++ l2))).Perm (pre ++ ((l1 ++ [x]) ++ l2)) := fun x pre l1 l2 => by
                have h1 : (l1 ++ [x]).Perm (x :: l1) := by simpa using List.perm_append_comm (l₁ := l1) (l₂ := [x])
                have h2 := (h1.append_right l2).append_left pre
                have h3 : (pre ++ (x :: (l1 ++ l2))).Perm (x :: (pre ++ (l1 ++ l2))) := List.perm_middle
                exact (h2.trans (by simpa using h3)).symm
              exact pp _ [_, _, _, _, _, _] _ _
            refine r_nextEnd (xs := intsV f.su) hA₁.hd S₁₀ hu (isL_sub hll S₁₀.fz) (by unfold intsV; rw [List.getElem?_map, hq]; rfl) fun e T s₁₁ S₁₁ he hFe heo => ⟨e, T, B, F₆, _, rfl, S₁₁, hB₆, ?_, he, hFe, heo, fun s₁₂ S₁₂ => ?_⟩
            · intro env' henv
              rcases List.mem_cons.mp henv with rfl | henv
              · exact ⟨(by intro z; cases z), L, m₆, rfl, .head _⟩
              · obtain ⟨a, L', m', b, c⟩ := hFm env' henv
                exact ⟨a, L', m', b, .tail _ (.tail _ (.tail _ (.tail _ (.tail _ (.tail _ (List.mem_append_right _ c))))))⟩
            · obtain ⟨kvs', v', rfl, hkv'⟩ : ∃ kvs' v', kvs₆ = kvs' ++ [((f.k : Int), v')] ∧ kvs'.map (·.1) = pre.map (fun f => (f.k : Int)) := by
                rcases List.eq_nil_or_concat kvs₆ with rfl | ⟨kvs', a, rfl⟩
                · rw [List.map_append] at hkv₆; simp at hkv₆
                · rw [List.concat_eq_append] at *
                  rw [List.map_append, List.map_append] at hkv₆
                  obtain ⟨h1, h2⟩ := List.append_inj' hkv₆ rfl
                  refine ⟨kvs', a.2, ?_, h1⟩
                  have : a.1 = (f.k : Int) := by simpa using h2
                  rw [← this]
              have hkn : (f.k : Int) ∉ kvs'.map (·.1) := by
                rw [hkv']
                intro hm
                obtain ⟨g, hg, z⟩ := List.mem_map.mp hm
                have := hfs₆.up
                rw [List.pairwise_append] at this
                have := this.2.2 g hg f (by simp)
                omega
              have hpre : pre.length + 1 ≤ 100 := by rw [List.length_append] at hfl₆; simp at hfl₆; omega
              have hkl : kvs'.length = pre.length := by have := congrArg List.length hkv'; simpa using this
              refine wpAny_execs_cons (wpAny_Delete (wpAny_deleteEach_cons (wpAny_delete_Subscript (r_local (env := fenv fdFc L 156) S₁₂ hN₆.ns (methodCall_KW (r_local (env := fenv fdFc L 156) S₁₂ hN₆.st (r_getList S₁₂ (.tail _ (.tail _ (.head _))) PySem.F.slot_list_pop PySem.F.type_list_pop (r_CWb0 ?_))))))))
              refine r_popL S₁₂ (.tail (.tail .head)) (by rw [List.length_map]; exact Nat.le_trans hpre (by decide +kernel)) fun s₁₃ S₁₃ => ?_
              refine r_delDict S₁₃ (.tail (.tail (.tail (.tail (.tail .head))))) hkn (by rw [hkl]; exact Nat.le_trans hpre (by decide +kernel)) fun s₁₄ S₁₄ => wpAny_deleteEach_nil ?_
              refine wpAny_execs_cons (wpAny_Expr_any (methodCall_KW (r_local (env := fenv fdFc L 156) S₁₄ hN₆.it (r_getList S₁₄ (.tail _ (.tail _ (.tail _ (.head _)))) PySem.F.slot_list_pop PySem.F.type_list_pop (r_CWb0 ?_)))))
              refine r_popL S₁₄ (.tail (.tail (.tail .head))) (by rw [List.length_map]; exact Nat.le_trans hpre (by decide +kernel)) fun s₁₅ S₁₅ => wpAny_execs_nil ?_
              refine wpAny_execs_nil (hQ₄ _ _ ⟨pre.length, by rw [List.length_append]; simp, F₆, m₆, pre, kvs', rfl, hs₆, hN₆, ⟨?_, fun g hg => hfs₆.mem g (List.mem_append_left _ hg)⟩, hkv', ?_, ?_, S₁₅⟩)
              · have := hfs₆.up
                rw [List.pairwise_append] at this
                exact this.1
              · unfold mu at hmu₆ ⊢
                rw [List.map_append, List.sum_append] at hmu₆
                omega
              · rw [List.length_append] at hfl₆; simp at hfl₆; omega
  · intro F₁ m₁ own₁ s₁ hOb4 S₁
    obtain ⟨sn, c, rfl, hsub, hN, hc⟩ := hOb4
    refine wpAny_execs_cons (wpAny_Return_some (wpAny_Constant_none ?_))
    exact h F₁ _ hsub S₁.pop.pop.pop.pop.pop
end
end
end Mine
end
section
open PySem PySem.W PyProof.Rows PySem.Calls
set_option Elab.async false
set_option maxRecDepth 100000
set_option maxHeartbeats 4000000
namespace Mine
noncomputable section
section
variable {B : Shared} {F F' : Heap} {own own' : Own} {s : Shared} {w : World} {A : Around} {E : Value → Shared → Prop} {env : Env} {m : Str → Option Value} {P P' : Obj → Prop}
theorem St.drop {l : Own} (S : St B F (l ++ own) s) : St B F own s :=
  ⟨S.gens, S.os, S.dr, S.fz, fun p hp => S.ow p (List.mem_append_right _ hp), by have := S.nd; rw [List.map_append, List.nodup_append] at this; exact this.2.1⟩
theorem St.freezeMany {l : Own} (S : St B F (l ++ own) s) : ∃ F', Sub F F' ∧ St B F' own s ∧ ∀ p ∈ l, ∃ o, F'.get? p.1 = some o ∧ p.2 o := by
  obtain ⟨F', hs, S', hF⟩ := S.drop.rebase
  refine ⟨F', hs, S', fun p hp => ?_⟩
  obtain ⟨_, o, e, q⟩ := S.ow p (List.mem_append_left _ hp)
  refine ⟨o, hF _ _ e fun hm => ?_, q⟩
  have := S.nd
  rw [List.map_append, List.nodup_append] at this
  exact this.2.2 _ (List.mem_map_of_mem (f := (·.1)) hp) _ hm rfl
theorem St.thaw {l own₂ : Own} {s₀ : Shared} (S₀ : St B F (l ++ own) s₀) (S : St B F' (own₂ ++ own) s) (hsub : Sub F F') (hl : ∀ p ∈ l, ∃ o, F'.get? p.1 = some o ∧ p.2 o) : ∃ F'', Sub F F'' ∧ St B F'' (own₂ ++ (l ++ own)) s := by
  have hfl : ∀ a ∈ l.map (·.1), ∃ o, F'.get? a = some o := fun a ha => by
    obtain ⟨p, hp, rfl⟩ := List.mem_map.mp ha
    obtain ⟨o, e, _⟩ := hl p hp
    exact ⟨o, e⟩
  have hno : ∀ p ∈ own₂ ++ own, p.1 ∉ l.map (·.1) := fun p hp hm => by
    obtain ⟨o, e⟩ := hfl _ hm
    rw [(S.ow p hp).1] at e; cases e
  have hl0 : ∀ p ∈ l, F.get? p.1 = none := fun p hp => (S₀.ow p (List.mem_append_left _ hp)).1
  refine ⟨hide F' (l.map (·.1)), fun b o e => ?_, ⟨S.gens, S.os, S.dr, fun b o e => ?_, fun p hp => ?_, ?_⟩⟩
  · rw [get?_hide]
    · exact hsub _ _ e
    · intro hm
      obtain ⟨p, hp, rfl⟩ := List.mem_map.mp hm
      rw [hl0 p hp] at e; cases e
  · by_cases hb : b ∈ l.map (·.1)
    · rw [get?_hide_mem hb] at e; cases e
    · rw [get?_hide hb] at e; exact S.fz _ _ e
  · rcases List.mem_append.mp hp with hp | hp
    · have h1 := S.ow p (List.mem_append_left _ hp)
      exact ⟨by rw [get?_hide (hno p (List.mem_append_left _ hp))]; exact h1.1, h1.2⟩
    · rcases List.mem_append.mp hp with hp | hp
      · obtain ⟨o, e, q⟩ := hl p hp
        exact ⟨get?_hide_mem (List.mem_map_of_mem (f := (·.1)) hp), o, S.fz _ _ e, q⟩
      · have h1 := S.ow p (List.mem_append_right _ hp)
        exact ⟨by rw [get?_hide (hno p (List.mem_append_right _ hp))]; exact h1.1, h1.2⟩
  · have n1 := S.nd
    have n0 := S₀.nd
    rw [List.map_append, List.nodup_append] at n1 n0 ⊢
    rw [List.map_append, List.nodup_append]
    refine ⟨n1.1, ⟨n0.1, n1.2.1, n0.2.2⟩, fun a ha b hb => ?_⟩
    rcases List.mem_append.mp hb with hb | hb
    · rintro rfl
      obtain ⟨p, hp, rfl⟩ := List.mem_map.mp ha
      exact hno p (List.mem_append_left _ hp) hb
    · exact n1.2.2 a ha b hb
/-! ### [.. for x in d.values() ..] -/
noncomputable def VIterO (d : Addr) (n ep : Nat) (i : Nat) (o : Obj) : Prop := o.cls = .type "dict_valueiterator" ∧ o.data = .fields #[.ref d, .int i 0, .int n 0, .int ep 0]
theorem turn_vals {elt target : Expr} {ifs : List Expr} {scope : Scope} {cl : List (Str × Addr)} {I d : Addr} {kvs : List (Int × Value)} {ep : Nat} {J : Nat → Heap → Own → List Value → Prop} {RR : Value → Addr → Shared → Prop} (hh : A.handled = none)
    (hL : ∀ i F₁ own₁ ys s₁, J i F₁ own₁ ys → St B F₁ own₁ s₁ → s₁.heap.DictAt (intKind pg w) d kvs ep)
    (item : ∀ C D i k v F₁ own₁ ys s₁ mc, kvs[i]? = some (k, v) → J i F₁ own₁ ys → St B F₁ ((C, NsO mc) :: (D, ListO ys) :: (I, VIterO d kvs.length ep (i + 1)) :: own₁) s₁ →
      wpAny (model pg w) A (assign target (compEnvC scope cl C env) v) (fun _ s₄ =>
            wpAny (model pg w) A (forIn ifs true fun c r => if r = true then do let ok ← isTrue c (compEnvC scope cl C env) (eval c (compEnvC scope cl C env)); pure (ForInStep.yield ok) else pure (ForInStep.yield r)) (fun ok s₅ =>
              if ok = true then wpAny (model pg w) A (eval elt (compEnvC scope cl C env)) (fun y s₆ => ys.length ≤ sizeLine ∧
                ∃ F₂ own₂ mc', J (i + 1) F₂ own₂ (ys ++ [y]) ∧ St B F₂ ((C, NsO mc') :: (D, ListO ys) :: (I, VIterO d kvs.length ep (i + 1)) :: own₂) s₆) (fun _ _ => False) s₅
              else ∃ F₂ own₂ mc', J (i + 1) F₂ own₂ ys ∧ St B F₂ ((C, NsO mc') :: (D, ListO ys) :: (I, VIterO d kvs.length ep (i + 1)) :: own₂) s₅)
            (fun _ _ => False) s₄) (fun _ _ => False) s₁)
    (fin : ∀ C D F₁ own₁ ys s₁ mc, J kvs.length F₁ own₁ ys → St B F₁ ((C, NsO mc) :: (D, ListO ys) :: own₁) s₁ → RR (.ref D) C s₁) :
    CompTurn w A env B elt target ifs scope cl I (VIterO d kvs.length ep) kvs.length J RR := by
  intro C D i F₁ own₁ ys s₁ mc hi hJ S
  have hl := hL i F₁ own₁ ys s₁ hJ S.pop.pop.pop
  have Sp : St B F₁ ((I, VIterO d kvs.length ep i) :: (C, NsO mc) :: (D, ListO ys) :: own₁) s₁ := S.perm ((List.Perm.swap ..).trans ((List.Perm.swap ..).cons _))
  have hit : s₁.heap.IsValIter I d i kvs.length ep := by obtain ⟨o, e, q⟩ := Sp.head; exact ⟨o, e, q.1, q.2⟩
  cases hv : kvs[i]? with
  | none =>
    have hsz : i = kvs.length := Nat.le_antisymm hi (by simpa using hv)
    subst hsz
    exact wpAny_pyNext_values_end hh hit hl (by simp) fun h₁ he₁ => fin _ _ _ _ _ _ _ hJ (Sp.updExt he₁ s₁.toks)
  | some kv =>
    obtain ⟨k, v⟩ := kv
    have hlt : i < kvs.length := (List.getElem?_eq_some_iff.mp hv).1
    refine wpAny_pyNext_values_item hit hl hv fun h₁ hit₁ hs₁ => ?_
    obtain ⟨o₁, e₁, q₁⟩ := hit₁
    have S₁ := (Sp.upd (P' := VIterO d kvs.length ep (i + 1)) hs₁ e₁ q₁ s₁.toks).perm (own' := (C, NsO mc) :: (D, ListO ys) :: (I, VIterO d kvs.length ep (i + 1)) :: own₁) (((List.Perm.swap ..).trans ((List.Perm.swap ..).cons _)).symm)
    refine letGo_iter (n := "dict_valueiterator") e₁ q₁.1 (by decide) ?_
    refine wpAny_mono (item C D i k v F₁ own₁ ys _ mc hv hJ S₁) (fun _ s₂ h₂ => wpAny_mono h₂ (fun ok s₃ h₃ => ?_) fun _ _ x => x.elim) fun _ _ x => x.elim
    cases ok with
    | true => exact wpAny_mono h₃ (fun y s₄ h₄ => ⟨hlt, h₄⟩) fun _ _ x => x.elim
    | false => exact ⟨hlt, h₃⟩
end
end
end Mine
end
section
open PySem PySem.W PyProof.Rows PySem.Calls
set_option Elab.async false
set_option maxRecDepth 100000
set_option maxHeartbeats 4000000
namespace Mine
noncomputable section
noncomputable def fdPrepS : {x : FuncData // fdAt P0 121 = x} := by
  refine' ⟨_, _⟩
  rotate_left
  conv => lhs; whnf
noncomputable def fdPrep : FuncData := fdPrepS.1
noncomputable abbrev sList (w : World) (X : SX) (ns : List Nd) (rv pv fv : Value) : Own := (X.dx, AttO (sAtt X rv pv fv)) :: (X.d, DicO w (ndKvs ns)) :: ndOwn ns
noncomputable def rdy (ns : List Nd) : List (Nat × Tok) := (ns.filter fun n => decide (n.np = 0)).map fun n => (n.k, n.tk)
section
variable {B : Shared} {F F' : Heap} {own own' : Own} {s : Shared} {w : World} {A : Around} {E : Value → Shared → Prop} {env : Env} {m : Str → Option Value} {P P' : Obj → Prop}
theorem fz_of {X : SX} {ns : List Nd} {rv pv fv : Value} (hS : SF F X ns) (hl : ∀ p ∈ sList w X ns rv pv fv, ∃ o, F.get? p.1 = some o ∧ p.2 o) (hup : ∀ n ∈ ns, ∀ p ∈ n.su, n.k < p.1 ∧ has ns p.1) (hsul : ∀ n ∈ ns, n.su.length ≤ 1000) : ∃ ep, Fz w F X ns ep := by
  obtain ⟨od, ed, es, ep, q⟩ := hl (X.d, DicO w (ndKvs ns)) (.tail _ (.head _))
  obtain ⟨oa, ea, qa⟩ := hl (X.dx, AttO (sAtt X rv pv fv)) (.head _)
  refine ⟨ep, hS.inst, ⟨rv, pv, fv, oa, ea, qa⟩, hS.lo, ⟨od, es, ed, q⟩, fun n hn => ⟨hl _ (.tail _ (.tail _ (mem_ndX hn))), hS.dx n hn⟩, fun n hn => list_of (hl _ (.tail _ (.tail _ (mem_ndL hn)))), hS.nd, hS.few, hup, hsul⟩
theorem r_CW0 {f : Addr} {first : List Value} {pos : Pos} {Q : Value → Shared → Prop} (S : St B F own s) (hB : Bs w F) (hk : keepIn (topK w.params) (.ref f) = true)
    (h : wpAny (model pg w) A (call (.ref f) (first ++ [])) Q E s) : wpAny (model pg w) A (callWith pos (.ref f) first (backTo pos (starEach [] env)) []) Q E s :=
  callWith_K0 (hB.K.keeps S.fz) hk h

theorem prepare_spec {X : SX} {ns : List Nd} {pv fv : Value} {outer : List Env} {Q : Value → Shared → Prop} (S : St B F (sOwn w X ns .none pv fv own) s) (hB : Bs w F) (hA : Rm 8 A) (hS : SF F X ns)
    (hup : ∀ n ∈ ns, ∀ p ∈ n.su, n.k < p.1 ∧ has ns p.1) (hsul : ∀ n ∈ ns, n.su.length ≤ 1000) (hfr : A.frames = some outer) (hFm : Fm outer own)
    (h : ∀ F' R s', Sub F F' → St B F' ((R, ListO (intsV (rdy ns))) :: sOwn w X ns (.ref R) pv fv own) s' → Q .none s') :
    wpAny (model pg w) A (call (.ref 121) [.ref X.x]) Q E s := by
  refine r_enterP (k := 7) (fd := fdPrep) S hB hA rfl rfl rfl rfl (by decide) (locs rfl) fun L s₁ S₁ hA₁ => ?_
  have hfr₁ : (A.deeper (fenv fdPrep L 121)).frames = some (fenv fdPrep L 121 :: outer) := by unfold Around.deeper; simp only [hfr]; rfl
  obtain ⟨m₁, S1, hm1⟩ : ∃ m₁ : Str → Option Value, St B F ((L, NsO m₁) :: sOwn w X ns .none pv fv own) s₁ ∧ m₁ "self" = some (.ref X.x) := ⟨_, S₁, rfl⟩
  clear S₁
  refine wpAny_execs_cons (wpAny_If (wpAny_isTrue_Compare1 (Attribute_any_ (r_local (env := fenv fdPrep L 121) S1 hm1 (r_getA S1 hB hS.inst (S1.mem (.tail _ (.head _))) rfl (by rfl) (by rfl) (by rfl) rfl fun s₂ S₂ => ?_)))))
  refine wpAny_Constant_none (isnot_none_none (wpAny_truthy_bool (wpAny_execs_nil ?_)))
  refine wpAny_execs_cons (plainObj_wpAny_Assign_Attribute ?_)
  have S₃ : St B F (sList w X ns .none pv fv ++ ([(L, NsO m₁)] ++ own)) s₂ := St.inn [(L, NsO m₁)] S₂
  obtain ⟨F₄, hs₄, S₄, hl₄⟩ := S₃.freezeMany
  have hB₄ := hB.sub hs₄
  obtain ⟨ep, hZ⟩ := fz_of (hS.sub hs₄) hl₄ hup hsul
  obtain ⟨rv', pv', fv', oat, hat, hatt⟩ := hZ.att
  refine r_comp rfl (by decide) rfl (by decide) (methodCall_KW (Attribute_any_ (r_local (env := fenv fdPrep L 121) S₄ hm1 (r_getA S₄ hB₄ hZ.inst ⟨oat, S₄.fz _ _ hat, hatt⟩ rfl (by rfl) (by rfl) (by rfl) rfl fun s₅ S₅ => ?_))))
  have hD := (dAt_sub hZ.dic S₅.fz).dictOf
  refine getMethod_builtin hD.typeIs PySem.F.plainAttrs_dict PySem.F.slot_dict_values PySem.F.type_dict_values hD.mapOf.noDict ?_
  refine r_CWb0 (call_meetsIn PySem.F.slot_dict_values hD.typeIs PySem.F.entry_dict_values (PySem.F.args_dict_values_1 _) (meets_dict_values (intKind pg w) X.d hZ.lo) ⟨⟨_, hD⟩, ?_⟩)
  obtain ⟨F₆, hs₆, S₆, hv⟩ := S₅.allocF (o := { cls := .type "dict_values", data := .fields #[.ref X.d] }) rfl
  have hZ₆ := hZ.sub hs₆
  refine wpAny_pyIter_values (knd := intKind pg w) ⟨_, S₆.fz _ _ hv, rfl, rfl⟩ (dAt_sub hZ₆.dic S₆.fz) ?_
  have S₇ := S₆.alloc (P := VIterO X.d (ndKvs ns).length ep 0) (o := { cls := .type "dict_valueiterator", data := .fields #[.ref X.d, .int 0 0, .int (ndKvs ns).length 0, .int ep 0] }) rfl ⟨rfl, rfl⟩
  refine ⟨_, B, F₆, _, VIterO X.d (ndKvs ns).length ep, _, (fun i F₁ own₁ ys => own₁ = [(L, NsO m₁)] ++ own ∧ Sub F₆ F₁ ∧ ys = intsV (rdy (ns.take i))), rfl, S₇, ⟨rfl, Sub.refl _, rfl⟩, ?_, turn_vals hA₁.hd ?_ ?_ ?_⟩
  · intro F₁ own₁ s₁ Q S hQ
    obtain ⟨o, e, q⟩ := S.head
    exact wpAny_pyIter_valiter ⟨o, e, q.1, q.2⟩ hQ
  · intro i F₁ own₁ ys s₁ hOb1 S
    obtain ⟨_, hs, _⟩ := hOb1
    exact dAt_sub hZ₆.dic (hs.trans S.fz)
  · intro C D i k v F₁ own₁ ys s₁ mc hkv hOb2 S
    obtain ⟨rfl, hs, rfl⟩ := hOb2
    obtain ⟨n, hni, hn, rfl⟩ : ∃ n, ns[i]? = some n ∧ n ∈ ns ∧ v = .ref n.x := by
      unfold ndKvs at hkv
      rw [List.getElem?_map] at hkv
      cases q : ns[i]? with
      | none => rw [q] at hkv; cases hkv
      | some n => rw [q] at hkv; cases hkv; exact ⟨n, rfl, List.mem_of_getElem? q, rfl⟩
    have hZ₁ := hZ₆.sub hs
    obtain ⟨⟨on, en, qn⟩, od, eod⟩ := hZ₁.slo n hn
    have hB₁ := hB₄.sub (hs₆.trans hs)
    have htk : rdy (ns.take (i + 1)) = rdy (ns.take i) ++ if n.np = 0 then [(n.k, n.tk)] else [] := by
      unfold rdy
      rw [List.take_add_one, hni, List.filter_append, List.map_append]
      by_cases h0 : n.np = 0
      · simp [h0]
      · simp [h0]
    refine wpAny_assign_Name (r_store (env := compEnvC _ _ C _) S fun s₂ S₂ => ?_)
    refine wpAny_tests_one (wpAny_isTrue_Compare1 (Attribute_any_ (r_local (env := compEnvC _ _ C _) S₂ rfl (r_getS S₂ hB₁ ⟨on, S₂.fz _ _ en, qn⟩ eod (by rfl) (by rfl) (v := .int n.np n.tn) (by rfl) (by rfl) (by rfl) (by rfl) (by rfl) (by rfl) fun s₃ S₃ => r_int S₃ fun t s₄ S₄ => eq_int (wpAny_truthy_bool ?_)))))
    by_cases h0 : n.np = 0
    · rw [if_pos (by simpa using h0)]
      refine Attribute_any_ (r_local (env := compEnvC _ _ C _) S₄ rfl (r_getS S₄ hB₁ ⟨on, S₄.fz _ _ en, qn⟩ eod (by rfl) (by rfl) (v := .int n.k n.tk) (by rfl) (by rfl) (by rfl) (by rfl) (by rfl) (by rfl) fun s₅ S₅ => ⟨?_, F₁, _, _, ⟨rfl, hs, by rw [htk, if_pos h0, intsV_snoc]⟩, S₅⟩))
      unfold intsV rdy
      rw [List.length_map, List.length_map]
      have e1 := List.length_filter_le (fun n : Nd => decide (n.np = 0)) (ns.take i)
      have e2 := List.length_take_le i ns
      have e3 := hS.few
      rw [List.length_take] at e1
      exact Nat.le_trans (by omega : _ ≤ 100) (by decide +kernel)
    · rw [if_neg (by simpa using h0)]
      exact ⟨F₁, _, _, ⟨rfl, hs, by rw [htk, if_neg h0, List.append_nil]⟩, S₄⟩
  · intro C D F₁ own₁ ys s₁ mc hOb3 S
    obtain ⟨rfl, hs, rfl⟩ := hOb3
    refine ⟨F₁, D, _, mc, _, rfl, S, fun s₈ S₈ => ?_⟩
    have e1 : (ndKvs ns).length = ns.length := by unfold ndKvs; rw [List.length_map]
    rw [e1, List.take_length] at S₈
    have hl₁ : ∀ p ∈ sList w X ns .none pv fv, ∃ o, F₁.get? p.1 = some o ∧ p.2 o := fun p hp => let ⟨o, e, q⟩ := hl₄ p hp; ⟨o, hs _ _ (hs₆ _ _ e), q⟩
    obtain ⟨F₉, hs₉, S₉⟩ := St.thaw (own₂ := [(D, ListO (intsV (rdy ns)))]) S₃ S₈ (hs₄.trans (hs₆.trans hs)) hl₁
    have hB₉ := hB.sub hs₉
    have hS₉ := hS.sub hs₉
    have S₁₀ : St B F₉ ((L, NsO m₁) :: (D, ListO (intsV (rdy ns))) :: (sList w X ns .none pv fv ++ own)) s₈ := by
      refine S₉.perm ?_
      exact (List.Perm.swap _ _ _).trans (List.Perm.cons _ List.perm_middle.symm)
    refine r_local (env := fenv fdPrep L 121) S₁₀ hm1 (r_setA S₁₀ hB₉ hS₉.inst (.tail .head) (by rfl) (by rfl) (by rfl) (by rfl) (Nat.le_of_ble_eq_true rfl) fun s₁₁ S₁₁ => ?_)
    have S₁₁ : St B F₉ ([(L, NsO m₁), (D, ListO (intsV (rdy ns)))] ++ sOwn w X ns (.ref D) pv fv own) s₁₁ := S₁₁
    refine wpAny_execs_cons (wpAny_Assign_Name (methodCall_KW (r_local (env := fenv fdPrep L 121) S₁₁ hm1 (r_getM S₁₁ hB₉ hS₉.inst (S₁₁.mem (.tail _ (.tail _ (.head _)))) rfl (by rfl) (by rfl) (by rfl) (r_CW0 S₁₁ hB₉ (by rfl) ?_)))))
    have S₁₂ : St B F₉ (sList w X ns (.ref D) pv fv ++ ([(L, NsO m₁), (D, ListO (intsV (rdy ns)))] ++ own)) s₁₁ := St.inn [(L, NsO m₁), (D, ListO (intsV (rdy ns)))] S₁₁
    obtain ⟨F₁₃, hs₁₃, S₁₃, hl₁₃⟩ := S₁₂.freezeMany
    obtain ⟨ep', hZ'⟩ := fz_of (hS₉.sub hs₁₃) hl₁₃ hup hsul
    refine fc_spec S₁₃ (hB₉.sub hs₁₃) (hA₁.le (by decide)) hZ' hfr₁ ?_ fun F₁₄ s₁₄ hs₁₄ S₁₄ => ?_
    · intro env' henv
      rcases List.mem_cons.mp henv with rfl | henv
      · exact ⟨(by intro z; cases z), L, m₁, rfl, .head _⟩
      · obtain ⟨a, L', m', b, c⟩ := hFm env' henv
        exact ⟨a, L', m', b, .tail _ (.tail _ c)⟩
    obtain ⟨F₁₅, hs₁₅, S₁₅⟩ := St.thaw (own₂ := []) S₁₂ S₁₄ (hs₁₃.trans hs₁₄) (fun p hp => let ⟨o, e, q⟩ := hl₁₃ p hp; ⟨o, hs₁₄ _ _ e, q⟩)
    have S₁₆ : St B F₁₅ ([(L, NsO m₁), (D, ListO (intsV (rdy ns)))] ++ sOwn w X ns (.ref D) pv fv own) s₁₄ := St.out [(L, NsO m₁), (D, ListO (intsV (rdy ns)))] S₁₅
    refine r_store (env := fenv fdPrep L 121) S₁₆ fun s₁₇ S₁₇ => ?_
    refine wpAny_execs_cons (wpAny_If (wpAny_isTrue_value (r_local (env := fenv fdPrep L 121) S₁₇ rfl (wpAny_pure (a := false) ?_))))
    exact wpAny_execs_nil (wpAny_execs_nil (h F₁₅ D _ (hs₉.trans hs₁₅) S₁₇.pop))
end
end
end Mine
end
section
open PySem PySem.W PyProof.Rows PySem.Calls
set_option Elab.async false
set_option maxRecDepth 100000
set_option maxHeartbeats 4000000
namespace Mine
noncomputable section
/-! ## the order of the run, in plain terms -/
noncomputable def cnt (st : List Sp) (a b : Nat) : Nat := (st.filter fun x => decide (x.a = a ∧ x.b = b)).length
noncomputable def inC (st : List Sp) (b : Nat) : Nat := (st.filter fun x => decide (x.b = b)).length
noncomputable def rem (st : List Sp) (D : List Nat) (b : Nat) : Nat := (st.filter fun x => decide (x.b = b ∧ x.a ∉ D)).length
theorem cnt_pos {st : List Sp} {a b : Nat} (h : 0 < cnt st a b) : ∃ x ∈ st, x.a = a ∧ x.b = b := by
  obtain ⟨x, hx⟩ := List.exists_mem_of_length_pos h
  obtain ⟨h1, h2⟩ := List.mem_filter.mp hx
  exact ⟨x, h1, by simpa using h2⟩
theorem rem_pos {st : List Sp} {D : List Nat} {x : Sp} (hx : x ∈ st) (hD : x.a ∉ D) : 0 < rem st D x.b :=
  List.length_pos_of_mem (List.mem_filter.mpr ⟨hx, by simpa using hD⟩)
theorem rem_zero {st : List Sp} {D : List Nat} {b : Nat} (h : ∀ x ∈ st, x.b = b → x.a ∈ D) : rem st D b = 0 := by
  unfold rem
  rw [List.length_eq_zero_iff, List.filter_eq_nil_iff]
  intro x hx q
  have q' : x.b = b ∧ x.a ∉ D := by simpa using q
  exact q'.2 (h x hx q'.1)
theorem flen {α : Type} (p : α → Bool) (x : α) (l : List α) : ((x :: l).filter p).length = (l.filter p).length + if p x = true then 1 else 0 := by
  rw [List.filter_cons]; split <;> simp
theorem rem_split (st : List Sp) (D : List Nat) (k b : Nat) (hk : k ∉ D) : rem st D b = rem st (k :: D) b + cnt st k b := by
  unfold rem cnt
  induction st with
  | nil => rfl
  | cons x st ih =>
    rw [flen, flen, flen, ih]
    have e : (if decide (x.b = b ∧ x.a ∉ D) = true then 1 else 0) = (if decide (x.b = b ∧ x.a ∉ k :: D) = true then 1 else 0) + (if decide (x.a = k ∧ x.b = b) = true then 1 else 0) := by
      by_cases h1 : x.b = b <;> by_cases h2 : x.a = k <;> by_cases h3 : x.a ∈ D
      all_goals first | (exfalso; rw [h2] at h3; exact hk h3) | simp [h1, h2, h3, hk]
    omega
theorem rem_nil (st : List Sp) (b : Nat) : rem st [] b = inC st b := by unfold rem inC; simp
theorem cnt_le (st : List Sp) (D : List Nat) (k b : Nat) (hk : k ∉ D) : cnt st k b ≤ rem st D b := by rw [rem_split st D k b hk]; omega
theorem pig1 : ∀ (n : Nat) (D : List Nat), (∀ j, j < n → j ∈ D) → n ≤ D.length
  | 0, _, _ => Nat.zero_le _
  | n + 1, D, h => by
    have h1 := pig1 n (D.erase n) fun j hj => (List.mem_erase_of_ne (by omega)).mpr (h j (by omega))
    rw [List.length_erase_of_mem (h n (by omega))] at h1
    have := List.length_pos_of_mem (h n (by omega))
    omega
theorem pig2 : ∀ (n : Nat) (D : List Nat), D.Nodup → (∀ j ∈ D, j < n) → D.length ≤ n
  | 0, D, _, h => by
    cases D with
    | nil => simp
    | cons a D => exact absurd (h a (.head _)) (by omega)
  | n + 1, D, hn, h => by
    have h1 := pig2 n (D.erase n) (hn.erase n) fun j hj => by
      have a := h j (List.mem_of_mem_erase hj)
      have b : j ≠ n := fun e => by subst e; exact (hn.not_mem_erase) hj
      omega
    by_cases q : n ∈ D
    · rw [List.length_erase_of_mem q] at h1; omega
    · rw [List.erase_of_not_mem q] at h1; omega
theorem least {P : Nat → Prop} : ∀ (n j : Nat), j < n → P j → ∃ i, i ≤ j ∧ P i ∧ ∀ i', i' < i → ¬ P i'
  | 0, _, h, _ => by omega
  | n + 1, j, h, hp => by
    by_cases q : ∃ i, i < j ∧ P i
    · obtain ⟨i, hi, hpi⟩ := q
      obtain ⟨k, a, b, c⟩ := least n i (by omega) hpi
      exact ⟨k, by omega, b, c⟩
    · exact ⟨j, Nat.le_refl _, hp, fun i hi hpi => q ⟨i, hi, hpi⟩⟩

structure GI (n : Nat) (st : List Sp) (i : Nat) (ns : List Nd) : Prop where
  np : ∀ j, npOf ns j = if n - i ≤ j ∧ j < n then (inC st j : Int) else 0
  su : ∀ j c, (suOf ns j).count c = if n - i ≤ c ∧ c < n then cnt st j c else 0
  sl : ∀ j, (suOf ns j).length ≤ 8 * i
  hi : ∀ j, n - i ≤ j → j < n → has ns j
  lo : ∀ j, has ns j → j < n
  few : ns.length ≤ 9 * i
theorem count_const {α : Type} (l : List α) (k c : Nat) : (l.map fun _ => k).count c = if c = k then l.length else 0 := by
  rw [List.map_const']
  rw [List.count_replicate]
  by_cases h : c = k
  · subst h; simp
  · simp [h]
    intro e; exact absurd e.symm h
theorem filt_len {st : List Sp} {k : Nat} {ps : List (Nat × Tok)} (hps : ps.map (·.1) = (st.filter fun x => decide (x.b = k)).map (·.a)) (j : Nat) : (ps.filter fun p => decide (p.1 = j)).length = cnt st j k := by
  have e1 : (ps.filter fun p => decide (p.1 = j)).length = ((ps.map (·.1)).filter fun a => decide (a = j)).length := by
    rw [List.filter_map, List.length_map]; rfl
  rw [e1, hps, List.filter_map, List.length_map, List.filter_filter]
  unfold cnt
  congr 1
  congr 1
  funext x
  simp only [Function.comp]
  by_cases h1 : x.a = j <;> by_cases h2 : x.b = k <;> simp [h1, h2]
theorem GI.zero (n : Nat) (st : List Sp) : GI n st 0 [] where
  np := fun j => by rw [if_neg (by omega)]; exact fld_nil _ _ _
  su := fun j c => by
    have : suOf [] j = [] := fld_nil _ _ _
    rw [this]
    rw [if_neg (by omega)]
    rfl
  sl := fun j => by have : suOf [] j = [] := fld_nil _ _ _; rw [this]; simp
  hi := fun j _ _ => by omega
  lo := fun j ⟨_, h, _⟩ => by cases h
  few := by simp
theorem GI.step {n i : Nat} {st : List Sp} {ns ns' : List Nd} {ps : List (Nat × Tok)} (G : GI n st i ns) (hin : i < n) (h8 : st.length ≤ 8) (hu : ∀ x ∈ st, x.a < x.b) {k : Nat} (hk : k = n - (i + 1)) (hps : ps.map (·.1) = (st.filter fun x => decide (x.b = k)).map (·.a))
    (h1 : ∀ j, npOf ns' j = npOf ns j + if j = k then (ps.length : Int) else 0) (h2 : ∀ j, suOf ns' j = suOf ns j ++ (ps.filter fun p => decide (p.1 = j)).map fun _ => k) (h3 : ∀ j, has ns' j ↔ has ns j ∨ j = k ∨ j ∈ ps.map (·.1)) (h4 : ns'.length ≤ ns.length + 1 + ps.length) : GI n st (i + 1) ns' := by
  have hpl : ps.length = inC st k := by
    have := congrArg List.length hps
    simpa [inC] using this
  have hp8 : ps.length ≤ 8 := by rw [hpl]; exact Nat.le_trans (List.length_filter_le _ _) h8
  refine ⟨fun j => ?_, fun j c => ?_, fun j => ?_, fun j hj hn => ?_, fun j hj => ?_, ?_⟩
  · rw [h1, G.np, hpl]
    by_cases e : j = k
    · subst e; rw [if_neg (by omega), if_pos rfl, if_pos (by omega)]; omega
    · rw [if_neg e]
      by_cases q : n - i ≤ j ∧ j < n
      · rw [if_pos q, if_pos (by omega)]; omega
      · rw [if_neg q, if_neg (by omega)]; omega
  · rw [h2, List.count_append, G.su, count_const, filt_len hps]
    by_cases e : c = k
    · subst e; rw [if_neg (by omega), if_pos rfl, if_pos (by omega)]; omega
    · rw [if_neg e]
      by_cases q : n - i ≤ c ∧ c < n
      · rw [if_pos q, if_pos (by omega)]; omega
      · rw [if_neg q, if_neg (by omega)]
  · rw [h2, List.length_append, List.length_map]
    have := G.sl j
    have := List.length_filter_le (fun p : Nat × Tok => decide (p.1 = j)) ps
    omega
  · rw [h3]
    by_cases e : j = k
    · exact .inr (.inl e)
    · exact .inl (G.hi j (by omega) hn)
  · rcases (h3 j).mp hj with h | h | h
    · exact G.lo j h
    · omega
    · rw [hps] at h
      obtain ⟨x, hx, rfl⟩ := List.mem_map.mp h
      obtain ⟨a, b⟩ := List.mem_filter.mp hx
      have hb : x.b = k := by simpa using b
      have := hu x a
      omega
  · have := G.few; omega

structure RI (n : Nat) (st : List Sp) (i : Nat) (ns : List Nd) (D : List Nat) (W R : List (Nat × Tok)) : Prop where
  dl : D.length = i
  dn : D.Nodup
  dlt : ∀ j ∈ D, j < n
  wlt : ∀ j ∈ W.map (·.1), j < n
  rlt : ∀ j ∈ R.map (·.1), j < n
  wnd : (W.map (·.1)).Nodup
  rnd : (R.map (·.1)).Nodup
  wd : ∀ j ∈ W.map (·.1), j ∉ D
  rd : ∀ j ∈ R.map (·.1), j ∉ D ∧ j ∉ W.map (·.1)
  npW : ∀ j ∈ W.map (·.1), npOf ns j = -1
  npO : ∀ j, j < n → j ∉ D → j ∉ W.map (·.1) → npOf ns j = rem st D j
  remD : ∀ j ∈ D, rem st D j = 0
  remW : ∀ j ∈ W.map (·.1), rem st D j = 0
  remR : ∀ j ∈ R.map (·.1), rem st D j = 0
  all : ∀ j, j < n → j ∉ D → j ∉ W.map (·.1) → rem st D j = 0 → j ∈ R.map (·.1)
  su : ∀ j c, (suOf ns j).count c = cnt st j c
  sl : ∀ j, (suOf ns j).length ≤ 60
  hs : ∀ j, has ns j ↔ j < n
theorem mem_rdy {ns : List Nd} (hn : (ns.map (·.k)).Nodup) (j : Nat) : j ∈ (rdy ns).map (·.1) ↔ has ns j ∧ npOf ns j = 0 := by
  unfold rdy
  rw [List.map_map]
  constructor
  · intro h
    obtain ⟨nd, hnd, rfl⟩ := List.mem_map.mp h
    obtain ⟨a, b⟩ := List.mem_filter.mp hnd
    refine ⟨⟨nd, a, rfl⟩, ?_⟩
    show npOf ns nd.k = 0
    rw [show npOf ns nd.k = nd.np from fld_mem hn a]
    simpa using b
  · rintro ⟨⟨nd, a, rfl⟩, h⟩
    rw [show npOf ns nd.k = nd.np from fld_mem hn a] at h
    exact List.mem_map.mpr ⟨nd, List.mem_filter.mpr ⟨a, by simpa using h⟩, rfl⟩
theorem RI.start {n : Nat} {st : List Sp} {ns : List Nd} (G : GI n st n ns) (hn6 : n ≤ 6) (hn : (ns.map (·.k)).Nodup) (hb : ∀ x ∈ st, x.b < n) : RI n st 0 ns [] [] (rdy ns) := by
  have hhas : ∀ j, has ns j ↔ j < n := fun j => ⟨G.lo j, fun h => G.hi j (by omega) h⟩
  have hnp : ∀ j, j < n → npOf ns j = inC st j := fun j h => by rw [G.np, if_pos (by omega)]
  refine ⟨rfl, .nil, fun j h => (by cases h), fun j h => (by cases h), fun j h => ?_, .nil, ?_, fun j h => (by cases h), fun j h => ⟨fun q => (by cases q), fun q => (by cases q)⟩, fun j h => (by cases h), fun j h _ _ => ?_, fun j h => (by cases h), fun j h => (by cases h), fun j h => ?_, fun j h _ _ hr => ?_, fun j c => ?_, fun j => ?_, hhas⟩
  · exact (hhas j).mp ((mem_rdy hn j).mp h).1
  · unfold rdy
    rw [List.map_map]
    exact List.Nodup.sublist (List.Sublist.map _ List.filter_sublist) hn
  · rw [rem_nil]; exact hnp j h
  · obtain ⟨h1, h2⟩ := (mem_rdy hn j).mp h
    rw [hnp j ((hhas j).mp h1)] at h2
    rw [rem_nil]; omega
  · rw [rem_nil] at hr
    exact (mem_rdy hn j).mpr ⟨(hhas j).mpr h, by rw [hnp j h, hr]; rfl⟩
  · rw [G.su]
    by_cases q : c < n
    · rw [if_pos (by omega)]
    · rw [if_neg (by omega)]
      rcases Nat.eq_zero_or_pos (cnt st j c) with e | e
      · exact e.symm
      · obtain ⟨x, hx, _, e2⟩ := cnt_pos e
        have := hb x hx; omega
  · have := G.sl j; omega
theorem RI.ready {n i : Nat} {st : List Sp} {ns ns' : List Nd} {D : List Nat} {W R : List (Nat × Tok)} (I : RI n st i ns D W R) (h1 : ∀ j, npOf ns' j = if j ∈ R.map (·.1) then -1 else npOf ns j) (h2 : ∀ j, suOf ns' j = suOf ns j) (h3 : ∀ j, has ns' j ↔ has ns j) : RI n st i ns' D (W ++ R) [] := by
  have hm : ∀ j, j ∈ (W ++ R).map (·.1) ↔ j ∈ W.map (·.1) ∨ j ∈ R.map (·.1) := fun j => by rw [List.map_append, List.mem_append]
  refine ⟨I.dl, I.dn, I.dlt, fun j h => ?_, fun j h => (by cases h), ?_, .nil, fun j h => ?_, fun j h => (by cases h), fun j h => ?_, fun j h hD hW => ?_, I.remD, fun j h => ?_, fun j h => (by cases h), fun j h hD hW hr => ?_, fun j c => ?_, fun j => ?_, fun j => ?_⟩
  · rcases (hm j).mp h with h | h
    · exact I.wlt j h
    · exact I.rlt j h
  · rw [List.map_append, List.nodup_append]
    refine ⟨I.wnd, I.rnd, fun a ha b hb e => ?_⟩
    subst e
    exact (I.rd a hb).2 ha
  · rcases (hm j).mp h with h | h
    · exact I.wd j h
    · exact (I.rd j h).1
  · rw [h1]
    split
    · rfl
    · rename_i q
      rcases (hm j).mp h with h | h
      · exact I.npW j h
      · exact absurd h q
  · rw [h1, if_neg (fun q => hW ((hm j).mpr (.inr q)))]
    exact I.npO j h hD (fun q => hW ((hm j).mpr (.inl q)))
  · rcases (hm j).mp h with h | h
    · exact I.remW j h
    · exact I.remR j h
  · exact absurd ((hm j).mpr (.inr (I.all j h hD (fun q => hW ((hm j).mpr (.inl q))) hr))) hW
  · rw [h2]; exact I.su j c
  · rw [h2]; exact I.sl j
  · rw [h3]; exact I.hs j
theorem RI.some {n i : Nat} {st : List Sp} {ns : List Nd} {D : List Nat} {W : List (Nat × Tok)} (I : RI n st i ns D W []) (hi : i < n) (hu : ∀ x ∈ st, x.a < x.b) : W ≠ [] := by
  have hex : ∃ j, j < n ∧ j ∉ D := by
    refine Classical.byContradiction fun q => ?_
    have := pig1 n D fun j hj => Classical.byContradiction fun h => q ⟨j, hj, h⟩
    rw [I.dl] at this
    omega
  obtain ⟨j₀, hj₀, hD₀⟩ := hex
  obtain ⟨j, hle, hD, hmin⟩ := least (P := fun j => j ∉ D) n j₀ hj₀ hD₀
  intro e
  subst e
  have hr : rem st D j = 0 := rem_zero fun x hx hb => Classical.byContradiction fun h => hmin x.a (by have := hu x hx; omega) h
  have := I.all j (by omega) hD (fun q => by cases q) hr
  cases this
theorem RI.done {n i : Nat} {st : List Sp} {ns ns' : List Nd} {D : List Nat} {p q : List (Nat × Tok)} {k : Nat} {t : Tok} {rs' : List (Nat × Tok)} (I : RI n st i ns D (p ++ (k, t) :: q) []) (hu : ∀ x ∈ st, x.a < x.b) (hb : ∀ x ∈ st, x.b < n) :
    has ns k ∧ npOf ns k = -1 ∧ (∀ j ∈ suOf ns k, has ns j ∧ j ≠ k ∧ ((suOf ns k).count j : Int) ≤ npOf ns j) ∧ k < n ∧ k ∉ D ∧ (∀ x ∈ st, x.b = k → x.a ∈ D) ∧
    ((∀ j, npOf ns' j = if j = k then -2 else npOf ns j - ((suOf ns k).count j : Int)) → (∀ j, suOf ns' j = suOf ns j) → (∀ j, has ns' j ↔ has ns j) →
      (∀ j, (rs'.map (·.1)).count j = (([] : List (Nat × Tok)).map (·.1)).count j + if j ∈ suOf ns k ∧ npOf ns j = ((suOf ns k).count j : Int) then 1 else 0) → RI n st (i + 1) ns' (k :: D) (p ++ q) rs') := by
  have hm : ∀ j, j ∈ (p ++ (k, t) :: q).map (·.1) ↔ j = k ∨ j ∈ (p ++ q).map (·.1) := fun j => by
    simp only [List.map_append, List.map_cons, List.mem_append, List.mem_cons]
    constructor
    · rintro (h | h | h)
      · exact .inr (.inl h)
      · exact .inl h
      · exact .inr (.inr h)
    · rintro (h | h | h)
      · exact .inr (.inl h)
      · exact .inl h
      · exact .inr (.inr h)
  have hkW := (hm k).mpr (.inl rfl)
  have hkD := I.wd k hkW
  have hkn := I.wlt k hkW
  have hstep : ∀ j, 0 < cnt st k j → j ≠ k ∧ j < n ∧ j ∉ D ∧ j ∉ (p ++ (k, t) :: q).map (·.1) := fun j hj => by
    obtain ⟨x, hx, ha, hbj⟩ := cnt_pos hj
    have h1 := hu x hx
    have h2 := hb x hx
    have h3 : 0 < rem st D j := by rw [← hbj]; exact rem_pos hx (by rw [ha]; exact hkD)
    refine ⟨by omega, by omega, fun h => ?_, fun h => ?_⟩
    · have := I.remD j h; omega
    · have := I.remW j h; omega
  have hsm : ∀ j, j ∈ suOf ns k ↔ 0 < cnt st k j := fun j => by rw [← I.su]; exact List.count_pos_iff.symm
  have hnd : ((p ++ q).map (·.1)).Nodup ∧ k ∉ (p ++ q).map (·.1) := by
    have h := I.wnd
    have e : ((p ++ (k, t) :: q).map (·.1)).Perm (k :: (p ++ q).map (·.1)) := by
      simp only [List.map_append, List.map_cons]
      exact List.perm_middle
    have h' := e.nodup_iff.mp h
    exact ⟨(List.nodup_cons.mp h').2, (List.nodup_cons.mp h').1⟩
  refine ⟨(I.hs k).mpr hkn, I.npW k hkW, fun j hj => ?_, hkn, hkD, fun x hx hxk => ?_, fun h1 h2 h3 h4 => ?_⟩
  · obtain ⟨a, b, c, d⟩ := hstep j ((hsm j).mp hj)
    refine ⟨(I.hs j).mpr b, a, ?_⟩
    rw [I.npO j b c d, I.su]
    have := cnt_le st D k j hkD
    omega
  · refine Classical.byContradiction fun h => ?_
    have h5 := rem_pos hx h
    have h6 := I.remW k hkW
    rw [hxk] at h5
    omega
  have hcnt : ∀ j, j ∈ rs'.map (·.1) ↔ 0 < cnt st k j ∧ rem st (k :: D) j = 0 := fun j => by
    rw [← List.count_pos_iff, h4]
    have e0 : (([] : List (Nat × Tok)).map (·.1)).count j = 0 := rfl
    rw [e0, Nat.zero_add]
    constructor
    · intro h
      split at h
      · rename_i hh
        have hc := (hsm j).mp hh.1
        obtain ⟨a, b, c, d⟩ := hstep j hc
        have h6 := hh.2
        rw [I.npO j b c d, I.su] at h6
        have := rem_split st D k j hkD
        exact ⟨hc, by omega⟩
      · omega
    · rintro ⟨hc, hr⟩
      obtain ⟨a, b, c, d⟩ := hstep j hc
      rw [if_pos ⟨(hsm j).mpr hc, by rw [I.npO j b c d, I.su]; have := rem_split st D k j hkD; omega⟩]
      omega
  refine ⟨by rw [List.length_cons, I.dl], List.nodup_cons.mpr ⟨hkD, I.dn⟩, fun j h => ?_, fun j h => I.wlt j ((hm j).mpr (.inr h)), fun j h => ?_, hnd.1, ?_, fun j h => ?_, fun j h => ?_, fun j h => ?_, fun j hn hD hW => ?_, fun j h => ?_, fun j h => ?_, fun j h => ((hcnt j).mp h).2, fun j hn hD hW hr => ?_, fun j c => ?_, fun j => ?_, fun j => ?_⟩
  · rcases List.mem_cons.mp h with rfl | h
    · exact hkn
    · exact I.dlt j h
  · exact (hstep j ((hcnt j).mp h).1).2.1
  · rw [List.nodup_iff_count]
    intro j
    rw [h4]
    have e0 : (([] : List (Nat × Tok)).map (·.1)).count j = 0 := rfl
    rw [e0]
    split <;> omega
  · intro hc
    rcases List.mem_cons.mp hc with rfl | hc
    · exact hnd.2 h
    · exact I.wd j ((hm j).mpr (.inr h)) hc
  · obtain ⟨a, b, c, d⟩ := hstep j ((hcnt j).mp h).1
    refine ⟨fun hc => ?_, fun hc => d ((hm j).mpr (.inr hc))⟩
    rcases List.mem_cons.mp hc with rfl | hc
    · exact a rfl
    · exact c hc
  · have hjW := (hm j).mpr (.inr h)
    have hjk : j ≠ k := fun e => hnd.2 (e ▸ h)
    rw [h1, if_neg hjk, I.npW j hjW, I.su]
    rcases Nat.eq_zero_or_pos (cnt st k j) with e | e
    · rw [e]; rfl
    · exact absurd hjW (hstep j e).2.2.2
  · have hjk : j ≠ k := fun e => hD (e ▸ .head _)
    have hjD : j ∉ D := fun h => hD (.tail _ h)
    have hjW : j ∉ (p ++ (k, t) :: q).map (·.1) := fun h => by
      rcases (hm j).mp h with h | h
      · exact hjk h
      · exact hW h
    rw [h1, if_neg hjk, I.npO j hn hjD hjW, I.su]
    have := rem_split st D k j hkD
    omega
  · have h5 := rem_split st D k j hkD
    rcases List.mem_cons.mp h with rfl | h
    · have := I.remW _ hkW; omega
    · have := I.remD j h; omega
  · have h5 := rem_split st D k j hkD
    have := I.remW j ((hm j).mpr (.inr h))
    omega
  · have hjk : j ≠ k := fun e => hD (e ▸ .head _)
    have hjD : j ∉ D := fun h => hD (.tail _ h)
    have hjW : j ∉ (p ++ (k, t) :: q).map (·.1) := fun h => by
      rcases (hm j).mp h with h | h
      · exact hjk h
      · exact hW h
    have h5 := rem_split st D k j hkD
    refine (hcnt j).mpr ⟨?_, hr⟩
    rcases Nat.eq_zero_or_pos (cnt st k j) with e | e
    · have := I.all j hn hjD hjW (by omega)
      cases this
    · exact e
  · rw [h2]; exact I.su j c
  · rw [h2]; exact I.sl j
  · rw [h3]; exact I.hs j
theorem RI.full {n : Nat} {st : List Sp} {ns : List Nd} {D : List Nat} {W R : List (Nat × Tok)} (I : RI n st n ns D W R) (j : Nat) (hj : j < n) : j ∈ D := by
  refine Classical.byContradiction fun h => ?_
  have := pig2 n (j :: D) (List.nodup_cons.mpr ⟨h, I.dn⟩) fun a ha => by
    rcases List.mem_cons.mp ha with rfl | ha
    · exact hj
    · exact I.dlt a ha
  rw [List.length_cons, I.dl] at this
  omega
end
end Mine
end
section
open PySem PySem.W PyProof.Rows PySem.Calls
set_option Elab.async false
set_option maxRecDepth 100000
set_option maxHeartbeats 4000000
namespace Mine
noncomputable section
noncomputable def fdGrS : {x : FuncData // fdAt P0 128 = x} := by
  refine' ⟨_, _⟩
  rotate_left
  conv => lhs; whnf
noncomputable def fdGr : FuncData := fdGrS.1
section
variable {B : Shared} {F F' : Heap} {own own' : Own} {s : Shared} {w : World} {A : Around} {E : Value → Shared → Prop} {env : Env} {m : Str → Option Value} {P P' : Obj → Prop}
theorem r_clear {D : Addr} {xs : List Value} {Q : Value → Shared → Prop} (S : St B F own s) (u : Upd own D (ListO xs) (ListO []) own') (hz : xs.length ≤ 1000) (h : ∀ s', St B F own' s' → Q .none s') :
    wpAny (model pg w) A (call (.builtin "list.clear") [.ref D]) Q E s := by
  obtain ⟨o, ho, n, rfl⟩ := S.at u
  refine call_meets PySem.F.slot_list_clear ⟨_, ho, rfl⟩ PySem.F.entry_list_clear (PySem.F.args_list_clear_1 _) (PySem.AutoSeq1.list_clear_list_0 D xs.toArray n (by rw [List.size_toArray]; exact Nat.le_trans hz (by decide +kernel))) ⟨ho, h _ ?_⟩
  have q := PySem.IsL.update ho (fun _ => #[])
  exact S.updAt u (Heap.SameBut.update ..) q ⟨_, rfl⟩ s.toks

theorem fld_map {α : Type} {f : Nd → α} {d : α} {g : Nd → Nd} (hg : ∀ n, (g n).k = n.k) : ∀ {ns : List Nd} {j : Nat}, fld f d (ns.map g) j = fld (fun n => f (g n)) d ns j
  | [], _ => rfl
  | a :: ns, j => by rw [List.map_cons, fld_cons, fld_cons, hg, fld_map hg]

theorem ready_spec {X : SX} {ns : List Nd} {R : Addr} {rs : List (Nat × Tok)} {p : Int} {tp : Tok} {fv : Value} {Q : Value → Shared → Prop} (S : St B F ((R, ListO (intsV rs)) :: sOwn w X ns (.ref R) (.int p tp) fv own) s) (hB : Bs w F) (hA : Rm 4 A) (hS : SF F X ns)
    (hrs : ∀ r ∈ rs, has ns r.1) (hrl : rs.length ≤ 100)
    (h : ∀ F' T ns' p' tp' s', Sub F F' → SF F' X ns' → F'.get? T = some { cls := .type "tuple", data := .seq (intsV rs).toArray } → St B F' ((R, ListO []) :: sOwn w X ns' (.ref R) (.int p' tp') fv own) s' → (∀ j, npOf ns' j = if j ∈ rs.map (·.1) then -1 else npOf ns j) → (∀ j, suOf ns' j = suOf ns j) → (∀ j, has ns' j ↔ has ns j) → ns'.length = ns.length → Q (.ref T) s') :
    wpAny (model pg w) A (call (.ref 128) [.ref X.x]) Q E s := by
  have hil : (intsV rs).length = rs.length := by unfold intsV; rw [List.length_map]
  refine r_enterP (k := 3) (fd := fdGr) S hB hA rfl rfl rfl rfl (by decide) (locs rfl) fun L s₁ S₁ hA₁ => ?_
  obtain ⟨m₁, S1, hm1⟩ : ∃ m₁ : Str → Option Value, St B F ((L, NsO m₁) :: (R, ListO (intsV rs)) :: sOwn w X ns (.ref R) (.int p tp) fv own) s₁ ∧ m₁ "self" = some (.ref X.x) := ⟨_, S₁, rfl⟩
  clear S₁
  refine wpAny_execs_cons (wpAny_If (wpAny_isTrue_Compare1 (Attribute_any_ (r_local (env := fenv fdGr L 128) S1 hm1 (r_getA S1 hB hS.inst (S1.mem (.tail _ (.tail _ (.head _)))) rfl (by rfl) (by rfl) (by rfl) rfl fun s₂ S₂ => ?_)))))
  refine wpAny_Constant_none (is_none_ne (by simp) (wpAny_truthy_bool (wpAny_execs_nil ?_)))
  refine wpAny_execs_cons (wpAny_Assign_Name (r_CallT S₂ hB rfl (by boot_fast) (by decide) (args_cons (Attribute_any_ (r_local (env := fenv fdGr L 128) S₂ hm1 (r_getA S₂ hB hS.inst (S₂.mem (.tail _ (.tail _ (.head _)))) rfl (by rfl) (by rfl) (by rfl) rfl fun s₃ S₃ => args_nil ?_))))))
  refine call_tuple_list (list_of (S₃.mem (a := R) (.tail _ (.head _)))) (fun h' hk => ?_) (by rw [List.size_toArray, hil]; exact Nat.le_trans hrl (by decide +kernel))
  obtain ⟨F₄, hs₄, S₄, hT⟩ := (S₃.keeps (h' := h') hk s₃.toks).allocF (o := { cls := .type "tuple", data := .seq (intsV rs).toArray }) rfl
  generalize h'.objs.size = T at hT S₄ ⊢
  have hTt : F₄.IsTuple T (intsV rs).toArray := ⟨_, hT, rfl, 0, rfl⟩
  have hB₄ := hB.sub hs₄
  have hS₄ := hS.sub hs₄
  refine r_store (env := fenv fdGr L 128) S₄ fun s₅ S₅ => ?_
  refine wpAny_execs_cons (wpAny_Assign_Name (Attribute_any_ (r_local (env := fenv fdGr L 128) S₅ hm1 (r_getA S₅ hB₄ hS₄.inst (S₅.mem (.tail _ (.tail _ (.head _)))) rfl (by rfl) (by rfl) (by rfl) rfl fun s₆ S₆ => r_store (env := fenv fdGr L 128) S₆ fun s₇ S₇ => ?_))))
  obtain ⟨m₇, S7, hn1, hn2, hn3⟩ : ∃ m₇ : Str → Option Value, St B F₄ ((L, NsO m₇) :: (R, ListO (intsV rs)) :: sOwn w X ns (.ref R) (.int p tp) fv own) s₇ ∧ m₇ "self" = some (.ref X.x) ∧ m₇ "result" = some (.ref T) ∧ m₇ "n2i" = some (.ref X.d) := ⟨_, S₇, hm1, rfl, rfl⟩
  clear S₄ S₅ S₆ S₇
  refine wpAny_execs_cons (wpAny_For (r_local (env := fenv fdGr L 128) S7 hn2 ?_))
  refine r_loopT (env := fenv fdGr L 128) (l := T) (vs := intsV rs) hA₁.hd
    (fun i F₁ m₁ own₁ => ∃ ns₁, own₁ = (R, ListO (intsV rs)) :: sOwn w X ns₁ (.ref R) (.int p tp) fv own ∧ Sub F₄ F₁ ∧ SF F₁ X ns₁ ∧ m₁ "self" = some (.ref X.x) ∧ m₁ "result" = some (.ref T) ∧ m₁ "n2i" = some (.ref X.d) ∧
      (∀ j, npOf ns₁ j = if j ∈ (rs.take i).map (·.1) then -1 else npOf ns j) ∧ (∀ j, suOf ns₁ j = suOf ns j) ∧ (∀ j, has ns₁ j ↔ has ns j) ∧ ns₁.length = ns.length)
    S7 hTt ⟨ns, rfl, Sub.refl _, hS₄, hn1, hn2, hn3, (fun j => by simp), fun j => rfl, fun j => Iff.rfl, rfl⟩ (fun i F₁ m₁ own₁ hI => by obtain ⟨_, _, hs, _⟩ := hI; exact hs) ?_ ?_
  · intro it i v F₁ m₁ own₁ s₁ hv hOb1 S₁
    refine gen_turn fun Q₁ E₁ E₁' hQ₁ => ?_
    obtain ⟨ns₁, rfl, hsub, hS₁, hq1, hq2, hq3, g1, g2, g3, g4⟩ := hOb1
    have hlt : i < rs.length := by have := (List.getElem?_eq_some_iff.mp hv).1; omega
    obtain ⟨q, hq⟩ : ∃ q, rs[i]? = some q := ⟨_, List.getElem?_eq_getElem hlt⟩
    unfold intsV at hv
    rw [List.getElem?_map, hq] at hv
    cases hv
    obtain ⟨n, hn, hnk⟩ : has ns₁ q.1 := (g3 q.1).mpr (hrs q (List.mem_of_getElem? hq))
    have hB₁ := hB₄.sub hsub
    refine wpAny_assign_Name (r_store (env := fenv fdGr L 128) S₁ fun s₂ S₂ => ?_)
    obtain ⟨m₂, S2, hq1, hq2, hq3, hq4⟩ : ∃ m₂ : Str → Option Value, St B F₁ ((L, NsO m₂) :: (it, TIterO T (i + 1)) :: (R, ListO (intsV rs)) :: sOwn w X ns₁ (.ref R) (.int p tp) fv own) s₂ ∧ m₂ "self" = some (.ref X.x) ∧ m₂ "result" = some (.ref T) ∧ m₂ "n2i" = some (.ref X.d) ∧ m₂ "node" = some (.int q.1 q.2) := ⟨_, S₂, hq1, hq2, hq3, rfl⟩
    clear S₁ S₂
    have hD := dic_of (S2.mem (a := X.d) (P := DicO w (ndKvs ns₁)) (.tail _ (.tail _ (.tail _ (.tail _ (.head _))))))
    refine wpAny_execs_cons (plainObj_wpAny_Assign_Attribute (r_global S2 hB₁ rfl (Subscript_ (r_local (env := fenv fdGr L 128) S2 hq3 (r_local (env := fenv fdGr L 128) S2 hq4 ?_)))))
    refine tail_any hD.typeIs slot_dict_getitem.lookup (wpAny_getItem_of (knd := intKind pg w) (k := (q.1 : Int)) (intIs _ _) hD.mapOf (v := .ref n.x) (by rw [← hnk]; exact vat_mem hS₁.nd hn) ?_) rfl
    have S₃ := S2.tok (s₂.toks + 1)
    obtain ⟨odn, hodn⟩ := hS₁.dx n hn
    obtain ⟨pre, post, rfl⟩ := List.append_of_mem hn
    have hpre := nd_pre hS₁.nd
    refine r_setS S₃ hB₁ (.tail (.tail (.tail (.tail (upd_np (-1) _))))) hodn (by rfl) (by rfl) (by rfl) (by decide) (by rfl) (by rfl) (by rfl) fun s₄ S₄ => ?_
    rw [← kvs_set (pre := pre) (post := post) (n := n) (n' := { n with np := -1, tn := _ }) rfl rfl] at S₄
    refine wpAny_execs_nil (hQ₁ _ _ ⟨F₁, _, _, ?_, S₄⟩)
    have htk : rs.take (i + 1) = rs.take i ++ [q] := by rw [List.take_add_one, hq]; rfl
    refine ⟨_, rfl, hsub, hS₁.set rfl rfl, hq1, hq2, hq3, ?_, ?_, ?_, ?_⟩
    · intro j
      rw [npOf, fld_set (n := n) (n' := { n with np := -1, tn := _ }) rfl hpre, htk, List.map_append, hnk]
      by_cases z : j = q.1
      · rw [if_pos z, if_pos (by rw [z]; simp)]
      · rw [if_neg z]
        have : (j ∈ (rs.take i).map (·.1) ++ [q].map (·.1)) ↔ j ∈ (rs.take i).map (·.1) := by simp [z]
        by_cases y : j ∈ (rs.take i).map (·.1)
        · rw [if_pos (this.mpr y)]
          have := g1 j
          rwa [if_pos y] at this
        · rw [if_neg (fun z => y (this.mp z))]
          have := g1 j
          rwa [if_neg y] at this
    · intro j
      rw [suOf, fld_set (n := n) (n' := { n with np := -1, tn := _ }) rfl hpre, ← g2 j]
      by_cases z : j = n.k
      · rw [if_pos z, z]
        exact (fld_mem (f := fun n : Nd => n.su.map (·.1)) hS₁.nd hn).symm
      · rw [if_neg z]
    · intro j
      rw [has_set (n := n) (n' := { n with np := -1, tn := _ }) rfl j]
      exact g3 j
    · rw [List.length_append, List.length_cons] at g4 ⊢; exact g4
  · intro F₁ m₁ own₁ s₁ hOb2 S₁
    obtain ⟨ns₁, rfl, hsub, hS₁, hq1, hq2, hq3, g1, g2, g3, g4⟩ := hOb2
    rw [hil, List.take_length] at g1
    have hB₁ := hB₄.sub hsub
    refine wpAny_execs_cons (wpAny_Expr (methodCall_KW (Attribute_any_ (r_local (env := fenv fdGr L 128) S₁ hq1 (r_getA S₁ hB₁ hS₁.inst (S₁.mem (.tail _ (.tail _ (.head _)))) rfl (by rfl) (by rfl) (by rfl) rfl fun s₂ S₂ => r_getList S₂ (.tail _ (.head _)) PySem.F.slot_list_clear PySem.F.type_list_clear (r_CWb0 (r_clear S₂ (.tail .head) (by rw [hil]; omega) fun s₃ S₃ => ?_)))))) rfl rfl)
    refine wpAny_execs_cons (wpAny_AugAssign_AttributeAny (r_local (env := fenv fdGr L 128) S₃ hq1 (r_getA S₃ hB₁ hS₁.inst (S₃.mem (.tail _ (.tail _ (.head _)))) rfl (by rfl) (by rfl) (by rfl) rfl fun s₄ S₄ => ?_)))
    refine r_CallB S₄ hB₁ rfl (by boot_fast) (by decide) (args_cons (r_local (env := fenv fdGr L 128) S₄ hq2 (args_nil ?_)))
    have hT₄ : IsTup s₄.heap T (intsV rs).toArray := isT_sub hTt (hsub.trans S₄.fz)
    refine len_tuple hT₄ (by rw [List.size_toArray, hil]; omega) ?_
    have S₅ := S₄.tok (s₄.toks + 1 + 1)
    refine iadd_int ?_
    have S₅ := S₅.tok (s₄.toks + 1 + 1 + 1)
    refine r_setA S₅ hB₁ hS₁.inst (.tail .head) (by rfl) (by rfl) (by rfl) (by rfl) (Nat.le_of_ble_eq_true rfl) fun s₆ S₆ => ?_
    refine wpAny_execs_cons (wpAny_Return_some (r_local (env := fenv fdGr L 128) S₆ hq2 ?_))
    exact h F₁ T ns₁ _ _ _ (hs₄.trans hsub) hS₁ (hsub _ _ hT) S₆.pop g1 g2 g3 g4
end
end
end Mine
end
section
open PySem PySem.W PyProof.Rows PySem.Calls
set_option Elab.async false
set_option maxRecDepth 100000
set_option maxHeartbeats 4000000
namespace Mine
noncomputable section
noncomputable def fdDoneS : {x : FuncData // fdAt P0 149 = x} := by
  refine' ⟨_, _⟩
  rotate_left
  conv => lhs; whnf
noncomputable def fdDone : FuncData := fdDoneS.1
theorem bind_done (x : Value) (k : Value) : bindArgs fdDone ⟨[x, k], []⟩ = (newTuple [k] >>= fun T => pure [(Str.ofString "self", x), (Str.ofString "nodes", T)]) := rfl
section
variable {B : Shared} {F F' : Heap} {own own' : Own} {s : Shared} {w : World} {A : Around} {E : Value → Shared → Prop} {env : Env} {m : Str → Option Value} {P P' : Obj → Prop}
theorem done_spec {X : SX} {ns : List Nd} {R : Addr} {rs : List (Nat × Tok)} {k : Nat} {t : Tok} {pv : Value} {f : Int} {tf : Tok} {Q : Value → Shared → Prop} (S : St B F ((R, ListO (intsV rs)) :: sOwn w X ns (.ref R) pv (.int f tf) own) s) (hB : Bs w F) (hA : Rm 4 A) (hS : SF F X ns)
    (hk : has ns k) (hnp : npOf ns k = -1) (hsu : ∀ j ∈ suOf ns k, has ns j ∧ j ≠ k ∧ ((suOf ns k).count j : Int) ≤ npOf ns j) (hsl : (suOf ns k).length ≤ 100) (hrl : rs.length ≤ 100)
    (h : ∀ F' ns' rs' f' tf' s', Sub F F' → SF F' X ns' → St B F' ((R, ListO (intsV rs')) :: sOwn w X ns' (.ref R) pv (.int f' tf') own) s' →
      (∀ j, npOf ns' j = if j = k then -2 else npOf ns j - ((suOf ns k).count j : Int)) → (∀ j, suOf ns' j = suOf ns j) → (∀ j, has ns' j ↔ has ns j) → ns'.length = ns.length →
      (∀ j, (rs'.map (·.1)).count j = (rs.map (·.1)).count j + if j ∈ suOf ns k ∧ npOf ns j = ((suOf ns k).count j : Int) then 1 else 0) → rs'.length ≤ rs.length + (suOf ns k).length → Q .none s') :
    wpAny (model pg w) A (call (.ref 149) [.ref X.x, .int k t]) Q E s := by
  refine r_enter (k := 3) (fd := fdDone) (binds := [(Str.ofString "self", .ref X.x), (Str.ofString "nodes", .ref s.heap.objs.size)])
    (own' := (s.heap.objs.size, fun o => o = { cls := .type "tuple", data := .seq [Value.int k t].toArray }) :: (R, ListO (intsV rs)) :: sOwn w X ns (.ref R) pv (.int f tf) own) S hB hA rfl rfl rfl
    (fun Q' hQ => by
      rw [bind_done]
      exact wpAny_bind (wpAny_newTuple (wpAny_pure (hQ _ (S.alloc rfl rfl))) (by show 1 ≤ sizeLine; decide +kernel))) (by decide) (locs rfl) fun L s₁ S₁ hA₁ => ?_
  generalize s.heap.objs.size = T at S₁ ⊢
  obtain ⟨F₁, hs₁, S₁, oT, hT', rfl⟩ := S₁.swap.freeze
  have hT : F₁.IsTuple T [Value.int k t].toArray := ⟨_, hT', rfl, 0, rfl⟩
  obtain ⟨m₁, S1, hm1, hm2⟩ : ∃ m₁ : Str → Option Value, St B F₁ ((L, NsO m₁) :: (R, ListO (intsV rs)) :: sOwn w X ns (.ref R) pv (.int f tf) own) s₁ ∧ m₁ "self" = some (.ref X.x) ∧ m₁ "nodes" = some (.ref T) := ⟨_, S₁, rfl, rfl⟩
  clear S₁
  have hB₁ := hB.sub hs₁
  have hS₁ := hS.sub hs₁
  refine wpAny_execs_cons (wpAny_If (wpAny_isTrue_Compare1 (Attribute_any_ (r_local (env := fenv fdDone L 149) S1 hm1 (r_getA S1 hB₁ hS₁.inst (S1.mem (.tail _ (.tail _ (.head _)))) rfl (by rfl) (by rfl) (by rfl) rfl fun s₂ S₂ => ?_)))))
  refine wpAny_Constant_none (is_none_ne (by simp) (wpAny_truthy_bool (wpAny_execs_nil ?_)))
  refine wpAny_execs_cons (wpAny_Assign_Name (Attribute_any_ (r_local (env := fenv fdDone L 149) S₂ hm1 (r_getA S₂ hB₁ hS₁.inst (S₂.mem (.tail _ (.tail _ (.head _)))) rfl (by rfl) (by rfl) (by rfl) rfl fun s₃ S₃ => r_store (env := fenv fdDone L 149) S₃ fun s₄ S₄ => ?_))))
  obtain ⟨m₄, S4, hn1, hn2, hn3⟩ : ∃ m₄ : Str → Option Value, St B F₁ ((L, NsO m₄) :: (R, ListO (intsV rs)) :: sOwn w X ns (.ref R) pv (.int f tf) own) s₄ ∧ m₄ "self" = some (.ref X.x) ∧ m₄ "nodes" = some (.ref T) ∧ m₄ "n2i" = some (.ref X.d) := ⟨_, S₄, hm1, hm2, rfl⟩
  clear S₂ S₃ S₄
  refine wpAny_execs_cons (wpAny_For (r_local (env := fenv fdDone L 149) S4 hn2 ?_))
  refine r_loopT (env := fenv fdDone L 149) (l := T) (vs := [.int k t]) hA₁.hd
    (fun i F₂ m₂ own₂ => Sub F₁ F₂ ∧ m₂ "self" = some (.ref X.x) ∧ m₂ "n2i" = some (.ref X.d) ∧ ((i = 0 ∧ own₂ = (R, ListO (intsV rs)) :: sOwn w X ns (.ref R) pv (.int f tf) own) ∨
      (0 < i ∧ ∃ ns' rs' f' tf', own₂ = (R, ListO (intsV rs')) :: sOwn w X ns' (.ref R) pv (.int f' tf') own ∧ SF F₂ X ns' ∧ (∀ j, npOf ns' j = if j = k then -2 else npOf ns j - ((suOf ns k).count j : Int)) ∧ (∀ j, suOf ns' j = suOf ns j) ∧ (∀ j, has ns' j ↔ has ns j) ∧ ns'.length = ns.length ∧
      (∀ j, (rs'.map (·.1)).count j = (rs.map (·.1)).count j + if j ∈ suOf ns k ∧ npOf ns j = ((suOf ns k).count j : Int) then 1 else 0) ∧ rs'.length ≤ rs.length + (suOf ns k).length)))
    S4 hT ⟨Sub.refl _, hn1, hn3, .inl ⟨rfl, rfl⟩⟩ (fun i F₁ m₁ own₁ hI => hI.1) ?_ ?_
  · intro it i v F₂ m₂ own₂ s₂ hv hOb1 S₂
    refine gen_turn fun Q₁ E₁ E₁' hQ₁ => ?_
    obtain ⟨hsub, hq1, hq3, hor⟩ := hOb1
    cases i with
    | succ i => simp at hv
    | zero =>
      cases hv
      rcases hor with ⟨_, rfl⟩ | ⟨h0, _⟩
      case inr => exact absurd h0 (Nat.lt_irrefl _)
      have hB₂ := hB₁.sub hsub
      have hS₂ := hS₁.sub hsub
      obtain ⟨n, hn, hnk⟩ := hk
      subst hnk
      have hnnp : n.np = -1 := by rw [← hnp]; exact (fld_mem (f := fun n : Nd => n.np) hS.nd hn).symm
      have hnsu : n.su.map (·.1) = suOf ns n.k := (fld_mem (f := fun n : Nd => n.su.map (·.1)) hS.nd hn).symm
      refine wpAny_assign_Name (r_store (env := fenv fdDone L 149) S₂ fun s₃ S₃ => ?_)
      have hD := dic_of (S₃.mem (a := X.d) (P := DicO w (ndKvs ns)) (.tail _ (.tail _ (.tail _ (.tail _ (.head _))))))
      refine wpAny_execs_cons (wpAny_If (wpAny_isTrue_Compare1 (wpAny_NamedExpr (methodCall_KW (r_local (env := fenv fdDone L 149) S₃ hq3 ?_)))))
      refine getMethod_builtin hD.typeIs PySem.F.plainAttrs_dict PySem.F.slot_dict_get PySem.F.type_dict_get hD.mapOf.noDict ?_
      refine r_CWb (args_cons (r_local (env := fenv fdDone L 149) S₃ rfl (args_nil ?_)))
      refine call_meetsIn PySem.F.slot_dict_get hD.typeIs PySem.F.entry_dict_get (PySem.F.args_dict_get_2 _ _) (meets_dict_get (intKind pg w) X.d (k := (n.k : Int)) (intIs _ _) hS.lo) ⟨_, hD.mapOf, ?_⟩
      rw [vat_mem hS.nd hn]
      have S₄ := S₃.tok (s₃.toks + 1)
      refine wpAny_assign_Name (r_store (env := fenv fdDone L 149) S₄ fun s₅ S₅ => ?_)
      refine wpAny_Constant_none (is_none_ne (by simp) (wpAny_truthy_bool (wpAny_execs_nil ?_)))
      obtain ⟨odn, hodn⟩ := hS₂.dx n hn
      refine wpAny_execs_cons (wpAny_Assign_Name (Attribute_any_ (r_local (env := fenv fdDone L 149) S₅ rfl (r_getS S₅ hB₂ (S₅.mem (.tail _ (.tail _ (.tail _ (.tail _ (.tail _ (List.mem_append_left _ (mem_ndX hn)))))))) hodn (by rfl) (by rfl) (v := .int n.np n.tn) (by rfl) (by rfl) (by rfl) (by rfl) (by rfl) (by rfl) fun s₆ S₆ => r_store (env := fenv fdDone L 149) S₆ fun s₇ S₇ => ?_))))
      refine wpAny_execs_cons (wpAny_If (wpAny_isTrue_Compare1 (r_local (env := fenv fdDone L 149) S₇ rfl (r_global S₇ hB₂ rfl (ne_int (wpAny_truthy_bool ?_))))))
      rw [hnnp, if_neg (by decide)]
      refine wpAny_execs_nil ?_
      obtain ⟨m₇, S7, hw1, hw2, hw3⟩ : ∃ m₇ : Str → Option Value, St B F₂ ((L, NsO m₇) :: (it, TIterO T 1) :: (R, ListO (intsV rs)) :: sOwn w X ns (.ref R) pv (.int f tf) own) s₇ ∧ m₇ "self" = some (.ref X.x) ∧ m₇ "n2i" = some (.ref X.d) ∧ m₇ "nodeinfo" = some (.ref n.x) := ⟨_, S₇, hq1, hq3, rfl⟩
      clear S₂ S₃ S₄ S₅ S₆ S₇
      obtain ⟨pre, post, rfl⟩ := List.append_of_mem hn
      have hpre := nd_pre hS.nd
      refine wpAny_execs_cons (plainObj_wpAny_Assign_Attribute (r_global S7 hB₂ rfl (r_local (env := fenv fdDone L 149) S7 hw3 (r_setS S7 hB₂ (.tail (.tail (.tail (.tail (upd_np (-2) _))))) hodn (by rfl) (by rfl) (by rfl) (by decide) (by rfl) (by rfl) (by rfl) fun s₈ S₈ => ?_))))
      obtain ⟨tG, S8⟩ : ∃ tG, St B F₂ ((L, NsO m₇) :: (it, TIterO T 1) :: (R, ListO (intsV rs)) :: (X.dx, AttO (sAtt X (.ref R) pv (.int f tf))) :: (X.d, DicO w (ndKvs (pre ++ n :: post))) :: (ndOwn (pre ++ { n with np := -2, tn := tG } :: post) ++ own)) s₈ := ⟨_, S₈⟩
      clear S₈
      rw [← kvs_set (pre := pre) (post := post) (n := n) (n' := { n with np := -2, tn := tG }) rfl rfl] at S8
      have f0 : ∀ j, npOf (pre ++ { n with np := -2, tn := tG } :: post) j = if j = n.k then -2 else npOf (pre ++ n :: post) j := fun j => fld_set (f := fun n : Nd => n.np) (n := n) (n' := { n with np := -2, tn := tG }) rfl hpre
      have f1 : ∀ j, suOf (pre ++ { n with np := -2, tn := tG } :: post) j = suOf (pre ++ n :: post) j := fun j => by
        rw [suOf, fld_set (n := n) (n' := { n with np := -2, tn := tG }) rfl hpre]
        by_cases z : j = n.k
        · rw [if_pos z, z]; exact hnsu
        · rw [if_neg z]
      have f2 : ∀ j, has (pre ++ { n with np := -2, tn := tG } :: post) j ↔ has (pre ++ n :: post) j := fun j => has_set (n := n) (n' := { n with np := -2, tn := tG }) rfl j
      have f3 : (pre ++ { n with np := -2, tn := tG } :: post).length = (pre ++ n :: post).length := by rw [List.length_append, List.length_cons, List.length_append, List.length_cons]
      have f4 : ∃ a ∈ pre ++ { n with np := -2, tn := tG } :: post, a.k = n.k ∧ a.l = n.l ∧ a.su = n.su ∧ a.x = n.x ∧ a.dx = n.dx := ⟨{ n with np := -2, tn := tG }, by simp, rfl, rfl, rfl, rfl, rfl⟩
      have hS8 : SF F₂ X (pre ++ { n with np := -2, tn := tG } :: post) := hS₂.set rfl rfl
      generalize pre ++ { n with np := -2, tn := tG } :: post = ns₈ at *
      generalize hns : pre ++ n :: post = ns₀ at *
      obtain ⟨a8, ha8, ak, al, asu, ax, adx⟩ := f4
      obtain ⟨oda, hoda⟩ := hS8.dx a8 ha8
      have hisl : (intsV n.su).length = n.su.length := by unfold intsV; rw [List.length_map]
      refine wpAny_execs_cons (wpAny_For (Attribute_any_ (r_local (env := fenv fdDone L 149) S8 hw3 (r_getS S8 hB₂ (ax ▸ S8.mem (.tail _ (.tail _ (.tail _ (.tail _ (.tail _ (List.mem_append_left _ (mem_ndX ha8)))))))) hoda (by rfl) (by rfl) (v := .ref n.l) (by unfold Nd.sl; rw [al]; rfl) (by rfl) (by rfl) (by rfl) (by rfl) (by rfl) fun s₉ S₉ => ?_))))
      refine r_loop (env := fenv fdDone L 149) (l := n.l) (vs := intsV n.su) hA₁.hd
        (fun i F₃ m₃ own₃ => ∃ ns₃ rs₃, own₃ = (it, TIterO T 1) :: (R, ListO (intsV rs₃)) :: sOwn w X ns₃ (.ref R) pv (.int f tf) own ∧ F₃ = F₂ ∧ SF F₂ X ns₃ ∧ m₃ "self" = some (.ref X.x) ∧ m₃ "n2i" = some (.ref X.d) ∧
          (∃ a ∈ ns₃, a.k = n.k ∧ a.l = n.l ∧ a.su = n.su) ∧ (∀ j, npOf ns₃ j = if j = n.k then -2 else npOf ns₀ j - (((n.su.take i).map (·.1)).count j : Int)) ∧ (∀ j, suOf ns₃ j = suOf ns₀ j) ∧ (∀ j, has ns₃ j ↔ has ns₀ j) ∧ ns₃.length = ns₀.length ∧
          (∀ j, (rs₃.map (·.1)).count j = (rs.map (·.1)).count j + if j ∈ (n.su.take i).map (·.1) ∧ npOf ns₀ j = (((n.su.take i).map (·.1)).count j : Int) then 1 else 0) ∧ rs₃.length ≤ rs.length + i)
        S₉ (list_of (asu ▸ al ▸ S₉.mem (.tail _ (.tail _ (.tail _ (.tail _ (.tail _ (List.mem_append_left _ (mem_ndL ha8))))))))) ?_ ?_ ?_ ?_
      · exact ⟨ns₈, rs, rfl, rfl, hS8, hw1, hw2, ⟨a8, ha8, ak, al, asu⟩, (fun j => by rw [f0 j]; simp), f1, f2, f3, (fun j => by simp), Nat.le_refl _⟩
      · intro i F₃ m₃ own₃ s₃ hOb2 S
        obtain ⟨ns₃, rs₃, rfl, rfl, _, _, _, ⟨a, ha, _, hal, hasu⟩, _⟩ := hOb2
        exact list_of (hasu ▸ hal ▸ S.mem (.tail _ (.tail _ (.tail _ (.tail _ (.tail _ (List.mem_append_left _ (mem_ndL ha))))))))
      · intro it₂ i v F₃ m₃ own₃ s₃ hv hOb3 S₃
        refine gen_turn fun Q₂ E₂ E₂' hQ₂ => ?_
        obtain ⟨ns₃, rs₃, rfl, rfl, hS₃, hu1, hu2, ha, g1, g2, g3, g4, g5, g6⟩ := hOb3
        have hlt : i < n.su.length := by have := (List.getElem?_eq_some_iff.mp hv).1; omega
        obtain ⟨q, hq⟩ : ∃ q, n.su[i]? = some q := ⟨_, List.getElem?_eq_getElem hlt⟩
        unfold intsV at hv
        rw [List.getElem?_map, hq] at hv
        cases hv
        have hqm : q.1 ∈ suOf ns₀ n.k := by rw [← hnsu]; exact List.mem_map_of_mem (f := (·.1)) (List.mem_of_getElem? hq)
        obtain ⟨hqh, hqne, hqc⟩ := hsu q.1 hqm
        obtain ⟨b, hb, hbk⟩ := (g3 q.1).mpr hqh
        refine wpAny_assign_Name (r_store (env := fenv fdDone L 149) S₃ fun s₄ S₄ => ?_)
        have hD₄ := dic_of (S₄.mem (a := X.d) (P := DicO w (ndKvs ns₃)) (.tail _ (.tail _ (.tail _ (.tail _ (.tail _ (.head _)))))))
        refine wpAny_execs_cons (wpAny_Assign_Name (Subscript_ (r_local (env := fenv fdDone L 149) S₄ hu2 (r_local (env := fenv fdDone L 149) S₄ rfl ?_))))
        refine tail_any hD₄.typeIs slot_dict_getitem.lookup (wpAny_getItem_of (knd := intKind pg w) (k := (q.1 : Int)) (intIs _ _) hD₄.mapOf (v := .ref b.x) (by rw [← hbk]; exact vat_mem hS₃.nd hb) ?_) rfl
        have S₅ := S₄.tok (s₄.toks + 1)
        refine r_store (env := fenv fdDone L 149) S₅ fun s₆ S₆ => ?_
        obtain ⟨m₆, S6, hx1, hx2, hx3, hx4⟩ : ∃ m₆ : Str → Option Value, St B F₃ ((L, NsO m₆) :: (it₂, IterO n.l (i + 1)) :: (it, TIterO T 1) :: (R, ListO (intsV rs₃)) :: sOwn w X ns₃ (.ref R) pv (.int f tf) own) s₆ ∧ m₆ "self" = some (.ref X.x) ∧ m₆ "n2i" = some (.ref X.d) ∧ m₆ "successor" = some (.int q.1 q.2) ∧ m₆ "successor_info" = some (.ref b.x) := ⟨_, S₆, hu1, hu2, rfl, rfl⟩
        clear S₃ S₄ S₅ S₆
        obtain ⟨odb, hodb⟩ := hS₃.dx b hb
        have hbnp : b.np = npOf ns₃ q.1 := by rw [← hbk]; exact (fld_mem (f := fun n : Nd => n.np) hS₃.nd hb).symm
        obtain ⟨pre₂, post₂, rfl⟩ := List.append_of_mem hb
        have hpre₂ := nd_pre hS₃.nd
        refine wpAny_execs_cons (wpAny_AugAssign_AttributeAny (r_local (env := fenv fdDone L 149) S6 hx4 (r_getS S6 hB₂ (S6.mem (.tail _ (.tail _ (.tail _ (.tail _ (.tail _ (.tail _ (List.mem_append_left _ (mem_ndX hb))))))))) hodb (by rfl) (by rfl) (v := .int b.np b.tn) (by rfl) (by rfl) (by rfl) (by rfl) (by rfl) (by rfl) fun s₇ S₇ => r_int S₇ fun t1 s₈ S₈ => isub_int ?_)))
        have S₉ := S₈.tok (s₈.toks + 1)
        refine r_setS S₉ hB₂ (.tail (.tail (.tail (.tail (.tail (upd_np (b.np - 1) s₈.toks)))))) hodb (by rfl) (by rfl) (by rfl) (by decide) (by rfl) (by rfl) (by rfl) fun s₁₀ S₁₀ => ?_
        rw [← kvs_set (pre := pre₂) (post := post₂) (n := b) (n' := { b with np := b.np - 1, tn := s₈.toks }) rfl rfl] at S₁₀
        have htk : (n.su.take (i + 1)).map (·.1) = (n.su.take i).map (·.1) ++ [q.1] := by rw [List.take_add_one, hq, List.map_append]; rfl
        have hcnt : ∀ j, ((n.su.take (i + 1)).map (·.1)).count j = ((n.su.take i).map (·.1)).count j + if q.1 = j then 1 else 0 := fun j => by
          rw [htk, List.count_append, List.count_cons, List.count_nil]
          by_cases z : q.1 = j <;> simp [z]
        have hle : ((n.su.take i).map (·.1)).count q.1 + 1 ≤ (suOf ns₀ n.k).count q.1 := by
          have h1 := hcnt q.1
          rw [if_pos rfl] at h1
          rw [← h1, ← hnsu]
          exact List.Sublist.count_le _ ((List.take_sublist _ _).map _)
        have n1 : ∀ j, npOf (pre₂ ++ { b with np := b.np - 1, tn := s₈.toks } :: post₂) j = if j = n.k then -2 else npOf ns₀ j - (((n.su.take (i + 1)).map (·.1)).count j : Int) := fun j => by
          rw [npOf, fld_set (n := b) (n' := { b with np := b.np - 1, tn := s₈.toks }) rfl hpre₂, hcnt j, hbk]
          by_cases z : j = q.1
          · subst z
            rw [if_pos rfl, if_neg hqne, if_pos rfl]
            show b.np - 1 = _
            rw [hbnp, g1 q.1, if_neg hqne]
            omega
          · have e0 : (if q.1 = j then 1 else 0) = 0 := if_neg (fun e => z e.symm)
            rw [if_neg z, e0, Nat.add_zero]
            exact g1 j
        have n2 : ∀ j, suOf (pre₂ ++ { b with np := b.np - 1, tn := s₈.toks } :: post₂) j = suOf ns₀ j := fun j => by
          rw [suOf, fld_set (n := b) (n' := { b with np := b.np - 1, tn := s₈.toks }) rfl hpre₂, ← g2 j]
          by_cases z : j = b.k
          · rw [if_pos z, z]
            exact (fld_mem (f := fun n : Nd => n.su.map (·.1)) hS₃.nd hb).symm
          · rw [if_neg z]
        have n3 : ∀ j, has (pre₂ ++ { b with np := b.np - 1, tn := s₈.toks } :: post₂) j ↔ has ns₀ j := fun j => (has_set (n := b) (n' := { b with np := b.np - 1, tn := s₈.toks }) rfl j).trans (g3 j)
        have n4 : (pre₂ ++ { b with np := b.np - 1, tn := s₈.toks } :: post₂).length = ns₀.length := by rw [← g4, List.length_append, List.length_cons, List.length_append, List.length_cons]
        have n5 : ∃ a ∈ pre₂ ++ { b with np := b.np - 1, tn := s₈.toks } :: post₂, a.k = n.k ∧ a.l = n.l ∧ a.su = n.su := by
          obtain ⟨a, ha, a1, a2, a3⟩ := ha
          refine ⟨a, ?_, a1, a2, a3⟩
          rcases List.mem_append.mp ha with ha | ha
          · exact List.mem_append_left _ ha
          · rcases List.mem_cons.mp ha with rfl | ha
            · exact absurd (hbk.symm.trans a1) hqne
            · exact List.mem_append_right _ (.tail _ ha)
        have n6 : SF F₃ X (pre₂ ++ { b with np := b.np - 1, tn := s₈.toks } :: post₂) := hS₃.set rfl rfl
        have hbm : ({ b with np := b.np - 1, tn := s₈.toks } : Nd) ∈ pre₂ ++ { b with np := b.np - 1, tn := s₈.toks } :: post₂ := by simp
        have hmem := mem_ndX hbm
        have hbv : b.np - 1 = npOf ns₀ q.1 - (((n.su.take (i + 1)).map (·.1)).count q.1 : Int) := by
          rw [hbnp, g1 q.1, if_neg hqne, hcnt q.1, if_pos rfl]; omega
        have hold : ¬ npOf ns₀ q.1 = (((n.su.take i).map (·.1)).count q.1 : Int) := by omega
        have r1 : ∀ j, j ≠ q.1 → ((j ∈ (n.su.take (i + 1)).map (·.1) ∧ npOf ns₀ j = (((n.su.take (i + 1)).map (·.1)).count j : Int)) ↔ (j ∈ (n.su.take i).map (·.1) ∧ npOf ns₀ j = (((n.su.take i).map (·.1)).count j : Int))) := fun j hj => by
          rw [hcnt j, if_neg (fun e => hj e.symm), Nat.add_zero, htk]
          simp [hj]
        generalize pre₂ ++ { b with np := b.np - 1, tn := s₈.toks } :: post₂ = ns₄ at *
        refine wpAny_execs_cons (wpAny_If (wpAny_isTrue_Compare1 (Attribute_any_ (r_local (env := fenv fdDone L 149) S₁₀ hx4 (r_getS S₁₀ hB₂ (S₁₀.mem (.tail _ (.tail _ (.tail _ (.tail _ (.tail _ (.tail _ (List.mem_append_left _ hmem)))))))) hodb (by rfl) (by rfl) (v := .int (b.np - 1) s₈.toks) (by rfl) (by rfl) (by rfl) (by rfl) (by rfl) (by rfl) fun s₁₁ S₁₁ => r_int S₁₁ fun t2 s₁₂ S₁₂ => eq_int (wpAny_truthy_bool ?_))))))
        by_cases h0 : b.np - 1 = 0
        · rw [if_pos (by simpa using h0)]
          refine wpAny_execs_cons (r_append (Attribute_any_ (r_local (env := fenv fdDone L 149) S₁₂ hx1 (r_getA S₁₂ hB₂ n6.inst (S₁₂.mem (.tail _ (.tail _ (.tail _ (.tail _ (.head _)))))) rfl (by rfl) (by rfl) (by rfl) rfl fun s₁₃ S₁₃ => ⟨R, intsV rs₃, rfl, S₁₃.mem (.tail _ (.tail _ (.tail _ (.head _)))), r_local (env := fenv fdDone L 149) S₁₃ hx3 ⟨B, F₃, _, _, _, S₁₃, .tail (.tail (.tail .head)), ?_, fun s₁₄ S₁₄ => ?_⟩⟩))))
          · unfold intsV; rw [List.length_map]
            have hl6 : n.su.length = (suOf ns₀ n.k).length := by rw [← hnsu, List.length_map]
            exact Nat.le_trans (by omega : rs₃.length ≤ 1000) (by decide +kernel)
          rw [← intsV_snoc rs₃ q.1 q.2] at S₁₄
          refine wpAny_execs_nil (wpAny_execs_nil (hQ₂ _ _ ⟨F₃, m₆, _, ?_, S₁₄⟩))
          refine ⟨ns₄, rs₃ ++ [(q.1, q.2)], rfl, rfl, n6, hx1, hx2, n5, n1, n2, n3, n4, fun j => ?_, by rw [List.length_append]; simp; omega⟩
          rw [List.map_append, List.count_append, g5 j]
          by_cases z : j = q.1
          · subst z
            rw [if_neg (fun y => hold y.2), if_pos ⟨by rw [htk]; simp, by omega⟩]
            simp
          · have := r1 j z
            have e1 : ([(q.1, q.2)].map (·.1)).count j = 0 := by rw [List.count_eq_zero]; simpa using z
            rw [e1]
            by_cases y : j ∈ (n.su.take i).map (·.1) ∧ npOf ns₀ j = (((n.su.take i).map (·.1)).count j : Int)
            · rw [if_pos y, if_pos (this.mpr y)]
            · rw [if_neg y, if_neg (fun x => y (this.mp x))]
        · rw [if_neg (by simpa using h0)]
          refine wpAny_execs_nil (wpAny_execs_nil (hQ₂ _ _ ⟨F₃, m₆, _, ?_, S₁₂⟩))
          refine ⟨ns₄, rs₃, rfl, rfl, n6, hx1, hx2, n5, n1, n2, n3, n4, fun j => ?_, by omega⟩
          rw [g5 j]
          by_cases z : j = q.1
          · subst z
            rw [if_neg (fun y => hold y.2), if_neg (fun y => h0 (by omega))]
          · have := r1 j z
            by_cases y : j ∈ (n.su.take i).map (·.1) ∧ npOf ns₀ j = (((n.su.take i).map (·.1)).count j : Int)
            · rw [if_pos y, if_pos (this.mpr y)]
            · rw [if_neg y, if_neg (fun x => y (this.mp x))]
      · intro F₃ m₃ own₃ s₃ hOb4 S₃
        obtain ⟨ns₃, rs₃, rfl, rfl, hS₃, hu1, hu2, ha, g1, g2, g3, g4, g5, g6⟩ := hOb4
        rw [hisl, List.take_length, hnsu] at g1 g5
        rw [hisl] at g6
        have hl6 : n.su.length = (suOf ns₀ n.k).length := by rw [← hnsu, List.length_map]
        rw [hl6] at g6
        refine wpAny_execs_cons (wpAny_AugAssign_AttributeAny (r_local (env := fenv fdDone L 149) S₃ hu1 (r_getA S₃ hB₂ hS₃.inst (S₃.mem (.tail _ (.tail _ (.tail _ (.head _))))) rfl (by rfl) (by rfl) (by rfl) rfl fun s₄ S₄ => r_int S₄ fun t1 s₅ S₅ => iadd_int ?_)))
        have S₆ := S₅.tok (s₅.toks + 1)
        refine r_setA S₆ hB₂ hS₃.inst (.tail (.tail .head)) (by rfl) (by rfl) (by rfl) (by rfl) (Nat.le_of_ble_eq_true rfl) fun s₇ S₇ => ?_
        refine wpAny_execs_nil (hQ₁ _ _ ⟨F₃, m₃, _, ?_, S₇⟩)
        exact ⟨hsub, hu1, hu2, .inr ⟨Nat.zero_lt_one, ns₃, rs₃, _, _, rfl, hS₃, g1, g2, g3, g4, g5, g6⟩⟩
  · intro F₂ m₂ own₂ s₂ hOb5 S₂
    obtain ⟨hsub, _, _, hor⟩ := hOb5
    rcases hor with ⟨h0, _⟩ | ⟨_, ns', rs', f', tf', rfl, hS', g1, g2, g3, g4, g5, g6⟩
    · cases h0
    · exact wpAny_execs_nil (h F₂ ns' rs' f' tf' _ (hs₁.trans hsub) hS' S₂.pop g1 g2 g3 g4 g5 g6)
end
end
end Mine
end
section
open PySem PySem.W PyProof.Rows PySem.Calls
set_option Elab.async false
set_option maxRecDepth 100000
set_option maxHeartbeats 4000000
namespace Mine
noncomputable section
/-! ## _law_run -/
noncomputable def fdRunS : {x : FuncData // fdAt P0 180 = x} := by
  refine' ⟨_, _⟩
  rotate_left
  conv => lhs; whnf
noncomputable def fdRun : FuncData := fdRunS.1
noncomputable def runBody : List Stmt := match fdRun.body with | .stmts b => b | _ => []
noncomputable abbrev renv (L : Addr) : Env := callEnvC fdRun L 180
theorem ps_of {F : Heap} {ys : List Value} : ∀ {l : List Sp}, All2 (IsI F) ys (l.map fun x => (x.a : Int)) → ∃ ps : List (Nat × Tok), ys = intsV ps ∧ ps.map (·.1) = l.map (·.a) := by
  intro l
  induction l generalizing ys with
  | nil => intro h; cases h; exact ⟨[], rfl, rfl⟩
  | cons x l ih =>
    intro h
    rw [List.map_cons] at h
    cases h with
    | cons a b =>
      obtain ⟨t, rfl⟩ := a
      obtain ⟨ps, rfl, e⟩ := ih b
      exact ⟨(x.a, t) :: ps, rfl, by rw [List.map_cons, List.map_cons, e]⟩
theorem rep_flat (n : Nat) (v : Value) : (List.replicate n [v]).flatten = List.replicate n v := by
  induction n with
  | zero => rfl
  | succ n ih => rw [List.replicate_succ, List.flatten_cons, ih]; rfl
section
variable {B : Shared} {F F' : Heap} {own own' : Own} {s : Shared} {w : World} {A : Around} {E : Value → Shared → Prop} {env : Env} {m : Str → Option Value}
theorem St.innR {X : SX} {ns : List Nd} {rv pv fv : Value} {r : Addr × (Obj → Prop)} (pre : Own) (S : St B F (pre ++ r :: sOwn w X ns rv pv fv own) s) : St B F (r :: sOwn w X ns rv pv fv (pre ++ own)) s := by
  refine S.perm ?_
  have h := (List.perm_append_comm (l₁ := r :: (X.dx, AttO (sAtt X rv pv fv)) :: (X.d, DicO w (ndKvs ns)) :: ndOwn ns) (l₂ := pre)).append_right own
  simpa using h
theorem St.outR {X : SX} {ns : List Nd} {rv pv fv : Value} {r : Addr × (Obj → Prop)} (pre : Own) (S : St B F (r :: sOwn w X ns rv pv fv (pre ++ own)) s) : St B F (pre ++ r :: sOwn w X ns rv pv fv own) s := by
  refine S.perm ?_
  have h := (List.perm_append_comm (l₁ := pre) (l₂ := r :: (X.dx, AttO (sAtt X rv pv fv)) :: (X.d, DicO w (ndKvs ns)) :: ndOwn ns)).append_right own
  simpa using h
structure RL (L : Addr) (m : Str → Option Value) (ov sv : Value) (tot : Int) (X : SX) : Prop where
  o : m "own" = some ov
  st : m "steps" = some sv
  tu : ∃ t, m "turn" = some (.int tot t)
  so : m "sorter" = some (.ref X.x)

theorem run_spec1 {L : Addr} {ov sv : Value} {ow : List Int} {st : List Sp} {tot : Int} {t : Tok} {outer : List Env} {cp : Option Value} {Q : Flow → Shared → Prop}
    (S : St B F ((L, NsO m) :: (L + 2, CellO none) :: (L + 1, CellO cp) :: own) s) (hB : Bs w F) (hA : Rm 8 A) (ho : IntL F ov ow) (hs : StepL F sv st) (hp : PlanOk ow st)
    (hmo : m "own" = some ov) (hms : m "steps" = some sv) (hmt : m "turn" = some (.int tot t)) (hfr : A.frames = some (renv L :: outer)) (hFm : Fm outer own)
    (h : ∀ F' X ns R W D cp m' pt ft s', Sub F F' → SF F' X ns → GI ow.length st ow.length ns → RL L m' ov sv tot X → m' "waiting" = some (.ref W) →
      St B F' ((L, NsO m') :: (W, ListO []) :: (D, ListO (List.replicate ow.length .none)) :: (L + 2, CellO (some (.ref D))) :: (L + 1, CellO cp) :: (R, ListO (intsV (rdy ns))) :: sOwn w X ns (.ref R) (.int 0 pt) (.int 0 ft) own) s' →
      wpAny (model pg w) A (execs (runBody.drop 5) (renv L)) Q E s') :
    wpAny (model pg w) A (execs runBody (renv L)) Q E s := by
  refine wpAny_execs_cons (wpAny_Assign_Name (Call_ (r_global (env := renv L) S hB rfl (r_CW0 S hB (by rfl) ?_))))
  refine sorter_make S hB (hA.le (by decide)) fun F₁ X t1 t2 s₁ hs₁ hS₁ S₁ => ?_
  have S₁ := St.out [(L, NsO m), (L + 2, CellO none), (L + 1, CellO cp)] S₁
  refine r_store (env := renv L) S₁ fun s₂ S₂ => ?_
  obtain ⟨m₂, S2, hL2⟩ : ∃ m₂ : Str → Option Value, St B F₁ ((L, NsO m₂) :: (L + 2, CellO none) :: (L + 1, CellO cp) :: sOwn w X [] .none (.int 0 t1) (.int 0 t2) own) s₂ ∧ RL L m₂ ov sv tot X := ⟨_, S₂, hmo, hms, ⟨_, hmt⟩, rfl⟩
  clear S₁ S₂
  have hB₁ := hB.sub hs₁
  obtain ⟨lo, vo, rfl, hlo, hio⟩ := ho
  have hn : vo.length = ow.length := hio.length
  have hn6 := hp.hi
  have hn3 := hp.lo
  refine wpAny_execs_cons (wpAny_For (r_CallT (env := renv L) S2 hB₁ rfl (by boot_fast) (by decide) (args_cons (wpAny_BinOp (r_CallB (env := renv L) S2 hB₁ rfl (by boot_fast) (by decide) (args_cons (r_local (env := renv L) S2 hL2.o (args_nil ?_))))))))
  refine r_len S2 (isL_sub hlo (hs₁.trans S2.fz)) (by omega) fun t₃ s₃ S₃ => ?_
  refine r_int S₃ fun t₄ s₄ S₄ => sub_int ?_
  refine args_cons (r_neg (S₄.tok _) fun t₅ s₅ S₅ => args_cons (r_neg S₅ fun t₆ s₆ S₆ => args_nil ?_))
  refine r_range3 S₆ (by decide) (PyProof.noPylong_small (by omega)) fun F₇ r s₇ hs₇ S₇ hr => ?_
  refine r_loopR (N := ow.length) hA.hd
    (fun i F₁ m₁ own₁ => ∃ cv ns, own₁ = (L + 2, CellO none) :: (L + 1, CellO cv) :: sOwn w X ns .none (.int 0 t1) (.int 0 t2) own ∧ Sub F₇ F₁ ∧ SF F₁ X ns ∧ GI ow.length st i ns ∧ RL L m₁ (.ref lo) sv tot X)
    S₇ hr (small_down (by omega) (by omega) (by omega) (by omega)) (by rw [rangeSize_down, if_pos (by omega)]; omega) ⟨cp, [], rfl, Sub.refl _, hS₁.sub hs₇, GI.zero _ _, hL2⟩ ?_ ?_
  · intro it i t₀ F₁ m₁ own₁ s₁ hi hOb1 S₁
    refine gen_turn fun Q₁ E₁ E₁' hQ₁ => ?_
    obtain ⟨cv, ns, rfl, hsub, hS, G, hL⟩ := hOb1
    obtain ⟨k, hk, hkn⟩ : ∃ k : Nat, (vo.length : Int) - 1 + (i : Int) * -1 = k ∧ k = ow.length - (i + 1) := ⟨ow.length - (i + 1), by omega, rfl⟩
    rw [hk]
    refine wpAny_assign_Name (r_storeC (env := renv L) S₁ rfl (.tail (.tail (.tail .head))) fun s₂ S₂ => ?_)
    have hB₂ := hB₁.sub (hs₇.trans hsub)
    have hst₂ := hs.sub ((hs₁.trans hs₇).trans hsub)
    have hst8 : st.length ≤ sizeLine := Nat.le_trans hp.few (by decide +kernel)
    refine wpAny_execs_cons (wpAny_Expr_any (methodCall_star (r_local (env := renv L) S₂ hL.so (r_getB S₂ hB₂ hS.inst (S₂.mem (.tail _ (.tail _ (.tail _ (.tail _ (.head _)))))) rfl (by rfl) (by rfl) (by rfl) (by rfl) (by rfl) (by rfl) (by rfl) fun F₂' q s₂' hs₂' S₂ hq => ?_))))
    have hB₂ := hB₂.sub hs₂'
    have hst₂ := hst₂.sub hs₂'
    have hS := hS.sub hs₂'
    have hsub := hsub.trans hs₂'
    refine r_CWM (q := q) (g := 116) (self := .ref X.x) (by rfl) (args_cons (r_cell (env := renv L) (c := L + 1) S₂ (.tail _ (.tail _ (.tail _ (.head _)))) rfl (items_star ?_)))
    refine r_compS (X := StepP) (Y := IsI) (p := fun x : Sp => decide (x.b = k)) (g := fun x : Sp => (x.a : Int)) hA.hd (fun _ _ _ _ q k => StepP.sub q k) isI_sub rfl (by decide) rfl (by decide) rfl (r_local (env := renv L) S₂ hL.st ⟨_, _, _, _, S₂, hst₂, hst8, ?_, ?_⟩)
    · intro C D ys I PI F₆ mc s₆ v x hs₆ hx S₆
      refine wpAny_tests_one (wpAny_isTrue_Compare1 (r_itemC (env := compEnvC _ _ C _) S₆ rfl hx (by decide) (by decide) rfl fun t₇ s₇ S₇ => r_cell (env := compEnvC _ _ C _) (c := L + 1) S₇ (.tail _ (.tail _ (.tail _ (.tail _ (.tail _ (.tail _ (.head _))))))) rfl (eq_int (wpAny_truthy_bool ⟨?_, F₆, Sub.refl _, S₇, fun _ => ?_⟩))))
      · by_cases e : x.b = k
        · simp [e]
        · simp [e]; omega
      · exact r_itemC (env := compEnvC _ _ C _) S₇ rfl hx (by decide) (by decide) rfl fun t₈ s₈ S₈ => ⟨F₆, Sub.refl _, ⟨_, rfl⟩, S₈⟩
    intro F₃ D ys s₃ hs₃ hys S₃
    obtain ⟨ps, rfl, hps⟩ := ps_of hys
    have hpl : ps.length ≤ 8 := by
      have := congrArg List.length hps
      rw [List.length_map, List.length_map] at this
      rw [this]
      exact Nat.le_trans (List.length_filter_le _ _) hp.few
    refine r_star S₃ (list_of S₃.head) (by unfold intsV; rw [List.length_map]; exact Nat.le_trans hpl (by decide +kernel)) fun s₄ S₄ => args_nil ⟨hB₂.sub (hs₃.trans S₄.fz), S₄.fz _ _ (hs₃ _ _ hq), ?_⟩
    rw [List.append_nil]
    have S₄ : St B F₃ ([(L, NsO m₁), (it, RIterO ((vo.length : Int) - 1 + (i + 1 : Nat) * -1) (ow.length - (i + 1 : Nat)) (-1)), (L + 2, CellO none), (L + 1, CellO (some (.int k t₀)))] ++ sOwn w X ns .none (.int 0 t1) (.int 0 t2) own) s₄ := S₄.pop
    have hfew := G.few
    refine add_code (St.inn _ S₄) (hB₂.sub hs₃) (hA.le (by decide)) (hS.sub hs₃) (by omega) (fun j => by have := G.sl j; omega) fun F₅ ns₅ s₅ hs₅ hS₅ S₅ g1 g2 g3 g4 => ?_
    refine wpAny_execs_nil (hQ₁ _ _ ⟨F₅, m₁, _, ⟨_, ns₅, rfl, hsub.trans (hs₃.trans hs₅), hS₅, G.step hi hp.few hp.up hkn hps g1 g2 g3 g4, hL⟩, St.out _ S₅⟩)
  intro F₈ m₈ own₈ s₈ hOb2 S₈
  obtain ⟨cv, ns, rfl, hsub, hS, G, hL⟩ := hOb2
  have hs8 : Sub F F₈ := (hs₁.trans hs₇).trans hsub
  have hB₈ := hB.sub hs8
  refine wpAny_execs_cons (wpAny_Expr_any (methodCall_KW (r_local (env := renv L) S₈ hL.so (r_getM S₈ hB₈ hS.inst (S₈.mem (.tail _ (.tail _ (.tail _ (.head _))))) rfl (by rfl) (by rfl) (by rfl) ?_))))
  refine r_CW0 S₈ hB₈ (by rfl) ?_
  have S₈ : St B F₈ ([(L, NsO m₈), (L + 2, CellO none), (L + 1, CellO cv)] ++ sOwn w X ns .none (.int 0 t1) (.int 0 t2) own) s₈ := S₈
  have hup : ∀ nd ∈ ns, ∀ p ∈ nd.su, nd.k < p.1 ∧ has ns p.1 := by
    intro nd hnd p hpp
    have h1 : p.1 ∈ suOf ns nd.k := by
      rw [show suOf ns nd.k = nd.su.map (·.1) from fld_mem hS.nd hnd]
      exact List.mem_map_of_mem hpp
    have h2 := List.count_pos_iff.mpr h1
    rw [G.su] at h2
    split at h2
    · obtain ⟨x, hx, e1, e2⟩ := cnt_pos h2
      have := hp.up x hx
      exact ⟨by omega, G.hi _ (by omega) (by omega)⟩
    · omega
  have hsul : ∀ nd ∈ ns, nd.su.length ≤ 1000 := by
    intro nd hnd
    have h1 := G.sl nd.k
    rw [show suOf ns nd.k = nd.su.map (·.1) from fld_mem hS.nd hnd, List.length_map] at h1
    omega
  refine prepare_spec (St.inn _ S₈) hB₈ hA hS hup hsul hfr ?_ fun F₉ R s₉ hs₉ S₉ => ?_
  · intro e he
    rcases List.mem_cons.mp he with rfl | he
    · exact ⟨fun q => ScopeKind.noConfusion q, L, m₈, rfl, .head _⟩
    · obtain ⟨a, L', m', b, c⟩ := hFm e he
      exact ⟨a, L', m', b, .tail _ (.tail _ (.tail _ c))⟩
  have S₉ := St.outR _ S₉
  have hs9 : Sub F F₉ := hs8.trans hs₉
  have hB₉ := hB.sub hs9
  -- levels = [None] * len(own)
  refine wpAny_execs_cons (wpAny_Assign_Name (wpAny_BinOp (r_ListF (args_cons (wpAny_Constant_none (args_nil ⟨_, _, _, S₉, by simp, fun F₁₀ a s₁₀ hs₁₀ S₁₀ hl₁₀ => ?_⟩))))))
  refine r_CallB (env := renv L) S₁₀ (hB₉.sub hs₁₀) rfl (by boot_fast) (by decide) (args_cons (r_local (env := renv L) S₁₀ hL.o (args_nil ?_)))
  refine r_len S₁₀ (isL_sub hlo ((hs9.trans hs₁₀).trans S₁₀.fz)) (by omega) fun t₁₁ s₁₁ S₁₁ => ?_
  refine r_mulL S₁₁ (isL_sub hl₁₀ S₁₁.fz) (by omega) (by simp; omega) (by omega) fun D s₁₂ S₁₂ => ?_
  rw [show (List.replicate (vo.length : Int).toNat [Value.none]).flatten = List.replicate ow.length Value.none by rw [Int.toNat_natCast, hn]; exact rep_flat _ _] at S₁₂
  refine r_storeC (env := renv L) S₁₂ rfl (.tail (.tail .head)) fun s₁₃ S₁₃ => ?_
  refine wpAny_execs_cons (wpAny_Assign_Name (r_ListO (args_nil ⟨_, _, _, S₁₃, by simp, fun W s₁₄ S₁₄ => ?_⟩)))
  refine r_store (env := renv L) S₁₄.rot2 fun s₁₅ S₁₅ => ?_
  exact h F₁₀ X ns R W D cv (fun y => if y = Str.ofString "waiting" then some (.ref W) else m₈ y) t1 t2 s₁₅ (hs9.trans hs₁₀) (hS.sub (hs₉.trans hs₁₀)) G ⟨hL.o, hL.st, hL.tu, hL.so⟩ rfl S₁₅
end
end
end Mine
end
section
open PySem PySem.W PyProof.Rows PySem.Calls
set_option Elab.async false
set_option maxRecDepth 100000
set_option maxHeartbeats 4000000
namespace Mine
noncomputable section
theorem All2.memR {α β : Type} {R : α → β → Prop} : ∀ {as : List α} {bs : List β}, All2 R as bs → All2 (fun a b => R a b ∧ b ∈ bs) as bs
  | _, _, .nil => .nil
  | _, _, .cons h t => .cons ⟨h, .head _⟩ ((All2.memR t).mono fun _ _ q => ⟨q.1, .tail _ q.2⟩)
theorem ints_pt : ∀ {ns : List Int} {vs : List Value}, vs.length = ns.length → (∀ (j : Nat) (n : Int), ns[j]? = some n → ∃ t, vs[j]? = some (Value.int n t)) → IntsAre vs ns
  | [], [], _, _ => .nil
  | [], _ :: _, h, _ => by simp at h
  | _ :: _, [], h, _ => by simp at h
  | n :: ns, v :: vs, h, q => by
    obtain ⟨t, e⟩ := q 0 n rfl
    simp at e
    subst e
    exact .cons n t (ints_pt (by simpa using h) fun j n' hj => q (j + 1) n' (by simpa using hj))
theorem intsV_app (p q : List (Nat × Tok)) : intsV (p ++ q) = intsV p ++ intsV q := by unfold intsV; rw [List.map_append]
theorem intsV_len (p : List (Nat × Tok)) : (intsV p).length = p.length := by unfold intsV; rw [List.length_map]
section
variable {B : Shared} {F F' : Heap} {own own' : Own} {s : Shared} {w : World} {A : Around} {E : Value → Shared → Prop} {env : Env} {m : Str → Option Value}
theorem r_free {x : Str} {pos : Pos} {c : Addr} {v : Value} {Q : Value → Shared → Prop} (S : St B F own s) (hm : (c, CellO (some v)) ∈ own) (hc : env.cells.lookup x = some c) (h : Q v s)
    (hk : env.scope.kind = .function := by rfl) (hl : env.kindOf x = some .free := by rfl) (hd : (x == ("__debug__" : Str)) = false := by decide) (hcd : (x == ("__classdict__" : Str)) = false := by decide) :
    wpAny (model pg w) A (eval (.Name x pos) env) Q E s := wpAny_Name (wpAny_loadName_free hk hl hc (cell_of (S.mem hm)) h hcd) hd

theorem run_spec2 {L W D R : Addr} {X : SX} {ns : List Nd} {ov sv : Value} {ow : List Int} {st : List Sp} {tot : Int} {pt ft : Tok} {cp : Option Value} {Q : Flow → Shared → Prop}
    (S : St B F ((L, NsO m) :: (W, ListO []) :: (D, ListO (List.replicate ow.length .none)) :: (L + 2, CellO (some (.ref D))) :: (L + 1, CellO cp) :: (R, ListO (intsV (rdy ns))) :: sOwn w X ns (.ref R) (.int 0 pt) (.int 0 ft) ((177, TabO #[]) :: own)) s)
    (hB : Bs w F) (hA : Rm 8 A) (ho : IntL F ov ow) (hs : StepL F sv st) (hp : PlanOk ow st) (hS : SF F X ns) (G : GI ow.length st ow.length ns) (hL : RL L m ov sv tot X) (hmw : m "waiting" = some (.ref W))
    (h : ∀ F' v ps s', Sub F F' → St B F' ((177, TabO ps) :: own) s' → IntL F' v ((List.range ow.length).map (lev ow st)) → Q (.ret v) s') :
    wpAny (model pg w) A (execs (runBody.drop 5) (renv L)) Q E s := by
  obtain ⟨lo, vo, rfl, hlo, hio⟩ := ho
  have hn : vo.length = ow.length := hio.length
  have hn6 := hp.hi
  have hn3 := hp.lo
  refine wpAny_execs_cons (wpAny_For (r_CallT (env := renv L) S hB rfl (by boot_fast) (by decide) (args_cons (r_CallB (env := renv L) S hB rfl (by boot_fast) (by decide) (args_cons (r_local (env := renv L) S hL.o (args_nil ?_)))))))
  refine r_len S (isL_sub hlo S.fz) (by omega) fun t₁ s₁ S₁ => args_nil ?_
  refine r_range1 S₁ fun F₂ r t2 t2' s₂ hs₂ S₂ hr => ?_
  refine r_loopR (N := ow.length) hA.hd
    (fun i F₁ m₁ own₁ => ∃ lvs Wl Rl Dn ns cv p tp f tf ps, own₁ = (W, ListO (intsV Wl)) :: (D, ListO lvs) :: (L + 2, CellO (some (.ref D))) :: (L + 1, CellO cv) :: (R, ListO (intsV Rl)) :: sOwn w X ns (.ref R) (.int p tp) (.int f tf) ((177, TabO ps) :: own) ∧
      Sub F₂ F₁ ∧ SF F₁ X ns ∧ RI ow.length st i ns Dn Wl Rl ∧ Wl.length ≤ 60 * i ∧ Rl.length ≤ 60 ∧ TabOk F₁ ⟨172, 31, 172, 108⟩ ((renv L).qual ++ "<lambda>") ps ∧ lvs.length = ow.length ∧
      (∀ j ∈ Dn, ∃ t, lvs[j]? = some (.int (lev ow st j) t)) ∧ RL L m₁ (.ref lo) sv tot X ∧ m₁ "waiting" = some (.ref W))
    S₂ hr (small_nat (by omega)) (by rw [size_nat, hn])
    ⟨_, [], rdy ns, [], ns, cp, 0, pt, 0, ft, #[], rfl, Sub.refl _, hS.sub hs₂, RI.start G hn6 hS.nd hp.inn, by simp, ?_, .inl rfl, by simp, fun j hj => (by cases hj), hL, hmw⟩ ?_ ?_
  · unfold rdy
    rw [List.length_map]
    have := List.length_filter_le (fun n : Nd => decide (n.np = 0)) ns
    have := G.few
    omega
  · intro it i t₀ F₁ m₁ own₁ s₁ hi hOb1 S₁
    refine gen_turn fun Q₁ E₁ E₁' hQ₁ => ?_
    obtain ⟨lvs, Wl, Rl, Dn, ns, cv, p, tp, f, tf, ps, rfl, hsub, hS, I, hWl, hRl, hTab, hlvs, hlev, hL, hmw⟩ := hOb1
    rw [show (0 : Int) + (i : Int) * 1 = i by omega]
    refine wpAny_assign_Name (r_store (env := renv L) S₁ fun s₂ S₂ => ?_)
    obtain ⟨m₂, S2, hL2, hmw2, hmk2⟩ : ∃ m₂ : Str → Option Value, St B F₁ ((L, NsO m₂) :: (it, RIterO (0 + (i + 1 : Nat) * 1) (ow.length - (i + 1 : Nat)) 1) :: (W, ListO (intsV Wl)) :: (D, ListO lvs) :: (L + 2, CellO (some (.ref D))) :: (L + 1, CellO cv) :: (R, ListO (intsV Rl)) :: sOwn w X ns (.ref R) (.int p tp) (.int f tf) ((177, TabO ps) :: own)) s₂ ∧
        RL L m₂ (.ref lo) sv tot X ∧ m₂ "waiting" = some (.ref W) ∧ m₂ "k" = some (.int i t₀) := ⟨_, S₂, ⟨hL.o, hL.st, hL.tu, hL.so⟩, hmw, rfl⟩
    clear S₁ S₂ hL hmw
    generalize RIterO (0 + (i + 1 : Nat) * 1) (ow.length - (i + 1 : Nat)) 1 = PI at S2 hQ₁
    have hB₁ := hB.sub (hs₂.trans hsub)
    -- waiting.extend(sorter.get_ready())
    refine wpAny_execs_cons (wpAny_Expr_any (methodCall_KW (r_local (env := renv L) S2 hmw2 (r_getList S2 (.tail _ (.tail _ (.head _))) PySem.F.slot_list_extend PySem.F.type_list_extend (r_CWb (args_cons ?_))))))
    refine methodCall_KW (r_local (env := renv L) S2 hL2.so (r_getM S2 hB₁ hS.inst (S2.mem (.tail _ (.tail _ (.tail _ (.tail _ (.tail _ (.tail _ (.tail _ (.head _))))))))) rfl (by rfl) (by rfl) (by rfl) (r_CW0 S2 hB₁ (by rfl) ?_)))
    have S2' : St B F₁ ([(L, NsO m₂), (it, PI), (W, ListO (intsV Wl)), (D, ListO lvs), (L + 2, CellO (some (.ref D))), (L + 1, CellO cv)] ++ (R, ListO (intsV Rl)) :: sOwn w X ns (.ref R) (.int p tp) (.int f tf) ((177, TabO ps) :: own)) s₂ := S2
    refine ready_spec (St.innR _ S2') hB₁ (hA.le (by decide)) hS (fun r hr => (I.hs _).mpr (I.rlt _ (List.mem_map_of_mem hr))) (by omega) fun F₃ T ns₃ p₃ tp₃ s₃ hs₃ hS₃ hT S₃ g1 g2 g3 g4 => args_nil ?_
    have S₃ := St.outR _ S₃
    have I₃ := I.ready g1 g2 g3
    refine r_extend S₃ hT (.tail (.tail .head)) (by rw [intsV_len]; omega) (by rw [intsV_len]; omega) fun s₄ S₄ => ?_
    rw [← intsV_app] at S₄
    have hWl₃ : (Wl ++ Rl).length ≤ 60 * (i + 1) := by rw [List.length_append]; omega
    generalize Wl ++ Rl = Wn at S₄ I₃ hWl₃
    have hB₃ := hB₁.sub hs₃
    have hne := I₃.some hi hp.up
    have hW0 : 0 < Wn.length := List.length_pos_iff.mpr hne
    -- if waiting == []
    refine wpAny_execs_cons (wpAny_If (wpAny_isTrue_Compare1 (r_local (env := renv L) S₄ hmw2 (r_ListF (args_nil ⟨_, _, _, S₄, by simp, fun F₅ a₅ s₅ hs₅ S₅ hl₅ => ?_⟩)))))
    refine r_eqLen (by have := hA.un; omega) (list_of (S₅.mem (.tail _ (.tail _ (.head _))))) (isL_sub hl₅ S₅.fz) (by rw [intsV_len]; simp; exact hne) (wpAny_truthy_bool (wpAny_execs_nil ?_))
    have hB₅ := hB₃.sub hs₅
    have hS₅ := hS₃.sub hs₅
    -- place = waiting.pop((turn + k) % len(waiting))
    obtain ⟨tt, hmt2⟩ := hL2.tu
    refine wpAny_execs_cons (wpAny_Assign_Name (methodCall_KW (r_local (env := renv L) S₅ hmw2 (r_getList S₅ (.tail _ (.tail _ (.head _))) PySem.F.slot_list_pop PySem.F.type_list_pop (r_CWb (args_cons (wpAny_BinOp (wpAny_BinOp (r_local (env := renv L) S₅ hmt2 (r_local (env := renv L) S₅ hmk2 (add_int ?_)))))))))))
    have S₅ := S₅.tok (s₅.toks + 1)
    refine r_CallB (env := renv L) S₅ hB₅ rfl (by boot_fast) (by decide) (args_cons (r_local (env := renv L) S₅ hmw2 (args_nil ?_)))
    refine r_len S₅ (list_of (S₅.mem (.tail _ (.tail _ (.head _))))) (by rw [intsV_len]; omega) fun t₆ s₆ S₆ => ?_
    rw [intsV_len]
    refine mod_int' (by omega) (args_nil ?_)
    obtain ⟨d, hd, hdl⟩ : ∃ d : Nat, (tot + (i : Int)).fmod (Wn.length : Int) = d ∧ d < Wn.length := by
      have b1 := Int.emod_nonneg (tot + (i : Int)) (b := (Wn.length : Int)) (by omega)
      have b2 := Int.emod_lt_of_pos (tot + (i : Int)) (b := (Wn.length : Int)) (by omega)
      refine ⟨((tot + (i : Int)) % (Wn.length : Int)).toNat, ?_, by omega⟩
      rw [Int.fmod_eq_emod_of_nonneg _ (by omega)]
      omega
    obtain ⟨pp, k, tk, qq, rfl, hppl⟩ : ∃ pp k tk qq, Wn = pp ++ (k, tk) :: qq ∧ pp.length = d :=
      ⟨Wn.take d, (Wn[d]).1, (Wn[d]).2, Wn.drop (d + 1), by rw [← List.drop_eq_getElem_cons hdl, List.take_append_drop], by rw [List.length_take]; omega⟩
    generalize (tot + (i : Int)).fmod ((pp ++ (k, tk) :: qq).length : Int) = idx at hd ⊢
    have S₆ := S₆.tok (s₆.toks + 1)
    have epq : intsV (pp ++ (k, tk) :: qq) = intsV pp ++ .int k tk :: intsV qq := by rw [intsV_app]; rfl
    rw [epq] at S₆
    refine r_popAt (p := intsV pp) (q := intsV qq) (y := .int k tk) S₆ (by rw [hd, intsV_len, hppl]) (.tail (.tail .head)) (by rw [← epq, intsV_len]; omega) fun s₇ S₇ => ?_
    rw [← intsV_app] at S₇
    refine r_storeC (env := renv L) S₇ rfl (.tail (.tail (.tail (.tail (.tail .head))))) fun s₈ S₈ => ?_
    obtain ⟨hk1, hk2, hk3, hkn, hkD, hkpre, hnext⟩ := RI.done (ns' := ns₃) (rs' := []) I₃ hp.up hp.inn
    clear hnext
    -- levels[place] = reduce(...)
    have C : CodeHd F₅ 179 177 := codeHd_of_K (c := 179) (P := 177) hB₅.K (by kernel_rfl)
    have hTab₅ : TabOk F₅ ⟨172, 31, 172, 108⟩ ((renv L).qual ++ "<lambda>") ps := hTab.sub (hs₃.trans hs₅)
    refine wpAny_execs_cons (wpAny_Assign_Subscript (r_CallF (env := renv L) S₈ hB₅ rfl rfl (args_cons ?_)))
    refine r_lambda (ps := ps) S₈ hB₅ (ownf := fun ps' => (L, NsO m₂) :: (it, PI) :: (W, ListO (intsV (pp ++ qq))) :: (D, ListO lvs) :: (L + 2, CellO (some (.ref D))) :: (L + 1, CellO (some (.int k tk))) :: (R, ListO []) :: sOwn w X ns₃ (.ref R) (.int p₃ tp₃) (.int f tf) ((177, TabO ps') :: own))
      (fun ps' => .tail (.tail (.tail (.tail (.tail (.tail (.tail (.tail (.tail (Upd.app .head _)))))))))) C rfl hTab₅ rfl rfl (by decide) (by decide) rfl fun F₉ fa c' ps₉ pm ctv s₉ hs₉ S₉ hTab₉ hf hrec => ?_
    have hst9 : StepL F₉ sv st := hs.sub ((((hs₂.trans hsub).trans hs₃).trans hs₅).trans hs₉)
    have hst8 : st.length ≤ sizeLine := Nat.le_trans hp.few (by decide +kernel)
    refine args_cons (r_compS (X := StepP) (Y := StepP) (p := fun x : Sp => decide (x.b = k)) (g := id) hA.hd (fun _ _ _ _ q k => StepP.sub q k) (fun _ _ _ _ q k => StepP.sub q k) rfl (by decide) rfl (by decide) rfl (r_local (env := renv L) S₉ hL2.st ⟨_, _, _, _, S₉, hst9, hst8, ?_, ?_⟩))
    · intro C D ys I PI F₆ mc s₆ v x hs₆ hx S₆
      refine wpAny_tests_one (wpAny_isTrue_Compare1 (r_itemC (env := compEnvC _ _ C _) S₆ rfl hx (by decide) (by decide) rfl fun t₇ s₇ S₇ => r_cell (env := compEnvC _ _ C _) (c := L + 1) S₇ (.tail _ (.tail _ (.tail _ (.tail _ (.tail _ (.tail _ (.tail _ (.tail _ (.head _))))))))) rfl (eq_int (wpAny_truthy_bool ⟨?_, F₆, Sub.refl _, S₇, fun _ => ?_⟩))))
      · by_cases e : x.b = k
        · simp [e]
        · simp [e]; omega
      · exact r_local (env := compEnvC _ _ C _) S₇ rfl ⟨F₆, Sub.refl _, hx, S₇⟩
    intro F₁₀ Dc ys s₁₀ hs₁₀ hys S₁₀
    rw [List.map_id] at hys
    obtain ⟨F₁₁, hs₁₁, S₁₁, oc, eoc, nc, rfl⟩ := S₁₀.freeze
    have hlc : F₁₁.IsList Dc ys.toArray := ⟨_, eoc, rfl, nc, rfl⟩
    have hsF : Sub F F₁₁ := ((((((hs₂.trans hsub).trans hs₃).trans hs₅).trans hs₉).trans hs₁₀).trans hs₁₁)
    have howk : ow[k]? = some (ow.getD k 0) := by rw [List.getD_eq_getElem?_getD, List.getElem?_eq_getElem hkn]; rfl
    refine args_cons (Subscript_ (r_local (env := renv L) S₁₁ hL2.o (r_cell (env := renv L) (c := L + 1) S₁₁ (.tail _ (.tail _ (.tail _ (.tail _ (.tail _ (.head _)))))) rfl ?_)))
    refine tail_int (ns := ow) ⟨lo, vo, rfl, isL_sub hlo (hsF.trans S₁₁.fz), hio⟩ (by omega) (by omega) (by rw [Int.toNat_natCast]; exact howk) fun t₁₂ => args_nil ⟨hB.sub (hsF.trans S₁₁.fz), ?_⟩
    refine reduce_spec (R := IsI) (X := fun F v x => StepP F v x ∧ x ∈ st.filter fun x : Sp => decide (x.b = k)) (g := fun h x => max h (med x.lo (lev ow st x.a) x.hi)) (k := 3) (b₀ := ow.getD k 0) S₁₁ (hB.sub hsF) (hA.le (by decide)) (hs₁₁ _ _ (hs₁₀ _ _ hf)) rfl hlc
      ((hys.memR).mono fun _ _ q => ⟨q.1.sub hs₁₁, q.2⟩) (fun F F' v x q k => ⟨q.1.sub k, q.2⟩) ⟨t₁₂, rfl⟩ (.inl ⟨_, _, rfl⟩) ?_ fun F₁₂ v₁₂ s₁₂ hs₁₂ S₁₂ hR => ?_
    · rintro F₁ A₁ own₁ s₁ v b e x hsub₁ hA₁ S₁ ⟨tb, rfl⟩ ⟨hx, hxm⟩ Q' hQ'
      obtain ⟨hxst, hxb⟩ := List.mem_filter.mp hxm
      have hxb : x.b = k := by simpa using hxb
      have hxD := hkpre x hxst hxb
      have hxa := hp.up x hxst
      have hxn := hp.inn x hxst
      obtain ⟨tl, htl⟩ := hlev x.a hxD
      have hB₁ := (hB.sub hsF).sub hsub₁
      refine r_callL (k := 2) S₁ hB₁ hA₁ (hsub₁ _ _ (hs₁₁ _ _ (hs₁₀ _ _ hf))) (hrec.keeps (fun b o q => hsub₁ _ _ (hs₁₁ _ _ (hs₁₀ _ _ q)))) rfl (by decide) (locs rfl) fun L₂ s₂ S₂ hA₂ => ?_
      refine r_CallB (env := lenv _ L₂ _ _ fa c') S₂ hB₁ rfl (by boot_fast) (by decide) (args_cons (r_local (env := lenv _ L₂ _ _ fa c') S₂ rfl (args_cons ?_)))
      refine r_CallF (env := lenv _ L₂ _ _ fa c') S₂ hB₁ rfl rfl (args_cons (r_ListF (args_cons (r_itemC (env := lenv _ L₂ _ _ fa c') S₂ rfl hx (by decide) (by decide) rfl fun t₃ s₃ S₃ => args_cons ?_))))
      refine Subscript_ (r_free (env := lenv _ L₂ _ _ fa c') (c := L + 2) (v := .ref D) S₃ ?_ rfl (r_itemC (env := lenv _ L₂ _ _ fa c') S₃ rfl hx (by decide) (by decide) rfl fun t₄ s₄ S₄ => ?_))
      · exact .tail _ (List.mem_append_right _ (.tail _ (.tail _ (.tail _ (.tail _ (.head _))))))
      refine tail_list (list_of (S₄.mem (a := D) (P := ListO lvs) (.tail _ (List.mem_append_right _ (.tail _ (.tail _ (.tail _ (.head _)))))))) (by omega) (by omega) (v := .int (lev ow st x.a) tl) (by rw [Int.toNat_natCast]; exact htl) ?_
      refine args_cons (r_itemC (env := lenv _ L₂ _ _ fa c') S₄ rfl hx (by decide) (by decide) rfl fun t₅ s₅ S₅ => args_nil ⟨_, _, _, S₅, (Nat.le_of_ble_eq_true rfl), fun F₆ a₆ s₆ hs₆ S₆ hl₆ => args_nil ⟨(hB₁.sub hs₆).sub S₆.fz, ?_⟩⟩)
      refine median_low_spec S₆ (hB₁.sub hs₆) hA₂ ⟨a₆, _, rfl, hl₆, ints3 _ _ _ _ _ _⟩ fun F₇ t₇ s₇ hs₇ S₇ => args_nil ?_
      refine r_max2 hA₂.hd S₇ fun t₈ s₈ S₈ => ?_
      exact hQ' F₇ _ _ (hs₆.trans hs₇) S₈.pop ⟨t₈, rfl⟩
    obtain ⟨tr, rfl⟩ := hR
    rw [← lev_eq hp.up k]
    refine r_cell (env := renv L) (c := L + 2) S₁₂ (.tail _ (.tail _ (.tail _ (.tail _ (.head _))))) rfl (r_cell (env := renv L) (c := L + 1) S₁₂ (.tail _ (.tail _ (.tail _ (.tail _ (.tail _ (.head _)))))) rfl ?_)
    refine r_setItem S₁₂ (.tail (.tail (.tail .head))) (by rw [hlvs]; exact hkn) (by omega) fun s₁₃ S₁₃ => ?_
    -- sorter.done(place)
    have hsF' := hsF.trans hs₁₂
    have hB₁₂ := hB.sub hsF'
    have hS₁₂ : SF F₁₂ X ns₃ := hS₅.sub (((hs₉.trans hs₁₀).trans hs₁₁).trans hs₁₂)
    refine wpAny_execs_cons (wpAny_Expr_any (methodCall_KW (r_local (env := renv L) S₁₃ hL2.so (r_getM S₁₃ hB₁₂ hS₁₂.inst (S₁₃.mem (.tail _ (.tail _ (.tail _ (.tail _ (.tail _ (.tail _ (.tail _ (.head _))))))))) rfl (by rfl) (by rfl) (by rfl) ?_))))
    refine r_CW (hB₁₂.sub S₁₃.fz) (by rfl) (args_cons (r_cell (env := renv L) (c := L + 1) S₁₃ (.tail _ (.tail _ (.tail _ (.tail _ (.tail _ (.head _)))))) rfl (args_nil ⟨hB₁₂.sub S₁₃.fz, ?_⟩)))
    have S₁₃' : St B F₁₂ ([(L, NsO m₂), (it, PI), (W, ListO (intsV (pp ++ qq))), (D, ListO (lvs.set k (.int (lev ow st k) tr))), (L + 2, CellO (some (.ref D))), (L + 1, CellO (some (.int k tk)))] ++ (R, ListO (intsV [])) :: sOwn w X ns₃ (.ref R) (.int p₃ tp₃) (.int f tf) ((177, TabO ps₉) :: own)) s₁₃ := S₁₃
    refine done_spec (St.innR _ S₁₃') hB₁₂ (hA.le (by decide)) hS₁₂ hk1 hk2 hk3 (Nat.le_trans (I₃.sl k) (by decide)) (by simp) fun F₁₄ ns₁₄ rs₁₄ f₁₄ tf₁₄ s₁₄ hs₁₄ hS₁₄ S₁₄ g5 g6 g7 g8 g9 g10 => ?_
    have S₁₄ := St.outR _ S₁₄
    have I₁₄ := (RI.done (ns' := ns₁₄) (rs' := rs₁₄) I₃ hp.up hp.inn).2.2.2.2.2.2 g5 g6 g7 g9
    have hsl := I₃.sl k
    refine wpAny_execs_nil (hQ₁ _ _ ⟨F₁₄, m₂, _, ⟨_, _, _, _, _, _, _, _, _, _, _, rfl, ?_, hS₁₄, I₁₄, ?_, ?_, ?_, ?_, ?_, hL2, hmw2⟩, S₁₄⟩)
    · exact ((((((hsub.trans hs₃).trans hs₅).trans hs₉).trans hs₁₀).trans hs₁₁).trans hs₁₂).trans hs₁₄
    · rw [List.length_append]
      rw [List.length_append, List.length_cons] at hWl₃
      omega
    · simp at g10; omega
    · exact hTab₉.sub (((hs₁₀.trans hs₁₁).trans hs₁₂).trans hs₁₄)
    · rw [List.length_set]; exact hlvs
    · intro j hj
      rcases List.mem_cons.mp hj with rfl | hj
      · exact ⟨tr, by rw [List.getElem?_set_self (by rw [hlvs]; exact hkn)]⟩
      · have hkj : k ≠ j := fun e => hkD (e ▸ hj)
        rw [List.getElem?_set_ne hkj]
        exact hlev j hj
  · intro F₁ m₁ own₁ s₁ hOb2 S₁
    obtain ⟨lvs, Wl, Rl, Dn, ns, cv, p, tp, f, tf, ps, rfl, hsub, hS, I, hWl, hRl, hTab, hlvs, hlev, hL, hmw⟩ := hOb2
    refine wpAny_execs_cons (wpAny_Return_some (r_cell (env := renv L) (c := L + 2) S₁ (.tail _ (.tail _ (.tail _ (.head _)))) rfl ?_))
    obtain ⟨F₂', hs₂', S₂, oD, eD, nD, rfl⟩ := (S₁.rot2).freeze
    refine h F₂' (.ref D) ps s₁ ((hs₂.trans hsub).trans hs₂') (S₂.pop.pop.pop.pop.pop.pop.pop.drop) ⟨D, lvs, rfl, ⟨_, eD, rfl, nD, rfl⟩, ints_pt (by rw [List.length_map, List.length_range, hlvs]) fun j n hj => ?_⟩
    have hjn : j < ow.length := by
      have := (List.getElem?_eq_some_iff.mp hj).1
      simpa using this
    rw [List.getElem?_map, List.getElem?_range hjn] at hj
    cases hj
    exact hlev j (I.full j hjn)

theorem run_spec {ov sv : Value} {ow : List Int} {st : List Sp} {tot : Int} {t : Tok} {outer : List Env} {Q : Value → Shared → Prop} (S : St B F ((177, TabO #[]) :: own) s) (hB : Bs w F) (hA : Rm 9 A)
    (ho : IntL F ov ow) (hs : StepL F sv st) (hp : PlanOk ow st) (hfr : A.frames = some outer) (hFm : Fm outer own)
    (h : ∀ F' v ps s', Sub F F' → St B F' ((177, TabO ps) :: own) s' → IntL F' v ((List.range ow.length).map (lev ow st)) → Q v s') :
    wpAny (model pg w) A (call (.ref 180) [ov, sv, .int tot t]) Q E s := by
  refine r_enterC (k := 8) (fd := fdRun) S hB hA rfl rfl rfl rfl rfl (locs rfl) (by intro L p hp; rcases List.mem_cons.mp hp with rfl | hp; rfl; rcases List.mem_cons.mp hp with rfl | hp; rfl; cases hp) fun L s₁ S₁ hA₁ => ?_
  have hfr₁ : (A.deeper (renv L)).frames = some (renv L :: outer) := by unfold Around.deeper; simp only [hfr]; rfl
  obtain ⟨m₁, S1, hm1, hm2, hm3⟩ : ∃ m₁ : Str → Option Value, St B F ((L, NsO m₁) :: (L + 2, CellO none) :: (L + 1, CellO none) :: (177, TabO #[]) :: own) s₁ ∧ m₁ "own" = some ov ∧ m₁ "steps" = some sv ∧ m₁ "turn" = some (.int tot t) := ⟨_, S₁, rfl, rfl, rfl⟩
  clear S₁
  refine run_spec1 (outer := outer) S1 hB hA₁ ho hs hp hm1 hm2 hm3 hfr₁ (fun e he => ?_) fun F₂ X ns R W D cp m₂ pt ft s₂ hs₂ hS G hL hmw S₂ => ?_
  · obtain ⟨a, L', m', b, c⟩ := hFm e he
    exact ⟨a, L', m', b, .tail _ c⟩
  exact run_spec2 S₂ (hB.sub hs₂) hA₁ (ho.sub hs₂) (hs.sub hs₂) hp hS G hL hmw fun F' v ps s' hs' S' hv => h F' v ps s' (hs₂.trans hs') S' hv
end
end
end Mine
end
section
open PySem PySem.W PyProof.Rows PySem.Calls
set_option Elab.async false
set_option maxRecDepth 100000
set_option maxHeartbeats 4000000
namespace Mine
noncomputable section
/-! ## law -/
theorem waysF_start {st : List Sp} (hu : ∀ x ∈ st, x.a < x.b) : ∀ n p, ∀ w ∈ waysF st n p, w.1 ≤ p
  | 0, _, w, h => by simp [waysF] at h
  | n + 1, p, w, h => by
    rw [waysF] at h
    rcases List.mem_cons.mp h with rfl | h
    · exact Nat.le_refl _
    · obtain ⟨x, hx, h⟩ := List.mem_flatMap.mp h
      split at h
      · obtain ⟨w', hw, rfl⟩ := List.mem_map.mp h
        have := waysF_start hu n x.a w' hw
        have := hu x hx
        simp only
        omega
      · simp at h
theorem waysF_gok {st : List Sp} (hg : ∀ x ∈ st, x.lo ≤ x.hi) : ∀ n p, ∀ w ∈ waysF st n p, ∀ g ∈ w.2, g.1 ≤ g.2
  | 0, _, w, h => by simp [waysF] at h
  | n + 1, p, w, h => by
    rw [waysF] at h
    rcases List.mem_cons.mp h with rfl | h
    · intro g hgm; cases hgm
    · obtain ⟨x, hx, h⟩ := List.mem_flatMap.mp h
      split at h
      · obtain ⟨w', hw, rfl⟩ := List.mem_map.mp h
        intro g hgm
        rcases List.mem_append.mp hgm with q | q
        · exact waysF_gok hg n x.a w' hw g q
        · simp at q; subst q; exact hg x hx
      · simp at h
noncomputable def fdLawS : {x : FuncData // fdAt P0 204 = x} := by
  refine' ⟨_, _⟩
  rotate_left
  conv => lhs; whnf
noncomputable def fdLaw : FuncData := fdLawS.1
section
variable {B : Shared} {F F' : Heap} {own own' : Own} {s : Shared} {w : World} {A : Around} {E : Value → Shared → Prop} {env : Env} {m : Str → Option Value}
theorem St.front {a : Addr × (Obj → Prop)} (pre : Own) (S : St B F (pre ++ a :: own) s) : St B F (a :: (pre ++ own)) s := S.perm List.perm_middle.symm
theorem St.back {a : Addr × (Obj → Prop)} (pre : Own) (S : St B F (a :: (pre ++ own)) s) : St B F (pre ++ a :: own) s := S.perm List.perm_middle
theorem r_assign1 {target value : Expr} {pos : Pos} {Q : Flow → Shared → Prop}
    (h : wpAny (model pg w) A (eval value env) (fun v s₁ => wpAny (model pg w) A (assign target env v) (fun _ => Q .next) E s₁) E s)
    (hs : swapsWithSole [target] value pos.line env = pure false := by rfl) (hw : swappedStores [target] value env = pure none := by rfl)
    (he : assignEach [target] env = [(false, assign target env)] := by rfl) :
    wpAny (model pg w) A (exec (.Assign [target] value pos) env) Q E s := by
  refine wpAny_Assign_stores (wpAny_mono h (fun v s₁ h₁ => ?_) fun _ _ x => x) hs hw
  rw [he]
  show wpAny _ _ (assignAll v [assign target env]) _ _ _
  first
    | exact h₁
    | (unfold assignAll; exact h₁)
    | (unfold assignAll; exact wpAny_bind (wpAny_mono h₁ (fun _ _ q => wpAny_pure q) fun _ _ x => x))
    | (unfold assignAll; exact wpAny_bind (wpAny_holding (wpAny_mono h₁ (fun _ _ q => wpAny_pure q) fun _ _ x => x)))
theorem r_unpackT {elts : List Expr} {k : Nat} {pos : Pos} {l : Addr} {items : List Value} {Q : Unit → Shared → Prop} (hh : A.handled = none) (S : St B F own s) (ht : IsTup s.heap l items.toArray)
    (hn : (assignEach elts env).length = items.length) (hstar : (assignEach elts env).findIdx? (·.1) = none)
    (h : ∀ s', St B F own s' → wpAny (model pg w) A (assignInOrder ((assignEach elts env).map (·.2)) items) Q E s') :
    wpAny (model pg w) A (assign (.Tuple elts k pos) env (.ref l)) Q E s := by
  refine assign_Tuple_tuple hh ht (by rw [hn]; simp) hstar fun h' he => h _ (S.keeps (fun b o e => he b o ?_ e) s.toks)
  exact Nat.ne_of_lt (Heap.lt_size e)

structure LL (m : Str → Option Value) (ov sv : Value) (tot bl ab : Int) (R : Addr) : Prop where
  o : m "own" = some ov
  st : m "steps" = some sv
  tu : ∃ t, m "turn" = some (.int tot t)
  be : ∃ t, m "below" = some (.int bl t)
  ab : ∃ t, m "above" = some (.int ab t)
  br : m "brought" = some (.ref R)
noncomputable def lawBody : List Stmt := match fdLaw.body with | .stmts b => b | _ => []
noncomputable abbrev wenv (L : Addr) : Env := fenv fdLaw L 204

/-- the first half: plan, below, above, brought -/
theorem law_one {L : Addr} {v : Value} {ns : List Int} {Q : Flow → Shared → Prop} (S : St B F ((L, NsO m) :: own) s) (hB : Bs w F) (hA : Rm 9 A) (hv : IntL F v ns) (h63 : ns.length ≤ 63) (hm : m "script" = some v)
    (h : ∀ F' m' R ov sv ow st tot bl ab s', Sub F F' → St B F' ((L, NsO m') :: (R, ListO []) :: own) s' → IntL F' ov ow → StepL F' sv st → PlanOk ow st → LL m' ov sv tot bl ab R → (∀ x ∈ ow, bl ≤ x) → (∀ x ∈ ow, x ≤ ab) → bl ≤ ab →
      wpAny (model pg w) A (execs (lawBody.drop 4) (wenv L)) Q E s') :
    wpAny (model pg w) A (execs lawBody (wenv L)) Q E s := by
  refine wpAny_execs_cons (r_assign1 (r_CallF (env := wenv L) S hB rfl rfl (args_cons (r_local (env := wenv L) S hm (args_nil ⟨hB.sub S.fz, ?_⟩)))))
  refine plan_spec S hB (hA.le (by decide)) hv h63 fun F₂ s₂ v₂ ov sv ow st tot t hs₂ S₂ hT ho hst hp => ?_
  obtain ⟨aT, rfl, hT⟩ := hT
  refine r_unpackT hA.hd S₂ ⟨_, S₂.fz _ _ hT, rfl, 0, rfl⟩ rfl rfl fun s₃ S₃ => ?_
  refine aio_cons (wpAny_assign_Name (r_store (env := wenv L) S₃ fun s₄ S₄ => ?_))
  refine aio_cons (wpAny_assign_Name (r_store (env := wenv L) S₄ fun s₅ S₅ => ?_))
  refine aio_cons (wpAny_assign_Name (r_store (env := wenv L) S₅ fun s₆ S₆ => aio_nil ?_))
  obtain ⟨m₆, S6, hmo6, hms6, hmt6⟩ : ∃ m₆ : Str → Option Value, St B F₂ ((L, NsO m₆) :: own) s₆ ∧ m₆ "own" = some ov ∧ m₆ "steps" = some sv ∧ m₆ "turn" = some (.int tot t) := ⟨_, S₆, rfl, rfl, rfl⟩
  clear S S₂ S₃ S₄ S₅ S₆
  have hB₂ := hB.sub hs₂
  have hst8 : st.length ≤ sizeLine := Nat.le_trans hp.few (by decide +kernel)
  obtain ⟨lo, vo, rfl, hlo, hio⟩ := ho
  have hpos : 0 < ow.length := by have := hp.lo; omega
  -- below
  refine wpAny_execs_cons (wpAny_Assign_Name (wpAny_BinOp (r_CallB (env := wenv L) S6 hB₂ rfl (by boot_fast) (by decide) (args_cons (wpAny_BinOp (r_local (env := wenv L) S6 hmo6 ?_))))))
  refine r_compS (X := StepP) (Y := IsI) (p := fun _ => true) (g := fun x => x.lo) hA.hd (fun _ _ _ _ q k => StepP.sub q k) isI_sub rfl (by decide) rfl (by decide) rfl (r_local (env := wenv L) S6 hms6 ⟨_, _, _, _, S6, hst, hst8, ?_, ?_⟩)
  · intro C D ys I PI F₆ mc s₆ v x hs₆ hx S₆
    refine wpAny_tests_nil ⟨rfl, F₆, Sub.refl _, S₆, fun _ => ?_⟩
    exact r_itemC (env := compEnvC _ _ C _) S₆ rfl hx (by decide) (by decide) rfl fun t s₇ S₇ => ⟨F₆, Sub.refl _, ⟨_, rfl⟩, S₇⟩
  intro F₇ D₇ ys₇ s₇ hs₇ hys₇ S₇
  rw [List.filter_eq_self.mpr (by simp)] at hys₇
  refine r_add S₇ (isL_sub hlo (hs₇.trans S₇.fz)) (list_of S₇.head) ?_ fun F₈ a₈ s₈ hs₈ S₈ hl₈ => args_nil ?_
  · rw [hio.length, hys₇.length, List.length_map]
    exact Nat.le_trans (Nat.add_le_add hp.hi hp.few) (by decide +kernel)
  have S₈ := S₈.pop
  refine r_min hA.hd S₈ ⟨a₈, _, rfl, isL_sub hl₈ S₈.fz, hio.append (ints_of_all2 hys₇)⟩ (by rw [List.length_append]; omega) fun M₁ t₉ s₉ S₉ hM1 hM2 => ?_
  refine r_int S₉ fun t₁₀ s₁₀ S₁₀ => sub_int ?_
  refine r_store (env := wenv L) (S₁₀.tok _) fun s₁₁ S₁₁ => ?_
  obtain ⟨m₁₁, S11, hmo11, hms11, hmt11, hmb11⟩ : ∃ m₁₁ : Str → Option Value, St B F₈ ((L, NsO m₁₁) :: own) s₁₁ ∧ m₁₁ "own" = some (.ref lo) ∧ m₁₁ "steps" = some sv ∧ m₁₁ "turn" = some (.int tot t) ∧ ∃ t, m₁₁ "below" = some (.int (M₁ - 1) t) := ⟨_, S₁₁, hmo6, hms6, hmt6, _, rfl⟩
  clear S6 S₇ S₈ S₉ S₁₀ S₁₁ hmo6 hms6 hmt6 hl₈ hys₇
  have hs28 := hs₇.trans hs₈
  have hB₈ := hB₂.sub hs28
  -- above
  refine wpAny_execs_cons (wpAny_Assign_Name (wpAny_BinOp (r_CallB (env := wenv L) S11 hB₈ rfl (by boot_fast) (by decide) (args_cons (wpAny_BinOp (r_local (env := wenv L) S11 hmo11 ?_))))))
  refine r_compS (X := StepP) (Y := IsI) (p := fun _ => true) (g := fun x => x.hi) hA.hd (fun _ _ _ _ q k => StepP.sub q k) isI_sub rfl (by decide) rfl (by decide) rfl (r_local (env := wenv L) S11 hms11 ⟨_, _, _, _, S11, hst.sub hs28, hst8, ?_, ?_⟩)
  · intro C D ys I PI F₆ mc s₆ v x hs₆ hx S₆
    refine wpAny_tests_nil ⟨rfl, F₆, Sub.refl _, S₆, fun _ => ?_⟩
    exact r_itemC (env := compEnvC _ _ C _) S₆ rfl hx (by decide) (by decide) rfl fun t s₇ S₇ => ⟨F₆, Sub.refl _, ⟨_, rfl⟩, S₇⟩
  intro F₁₂ D₁₂ ys₁₂ s₁₂ hs₁₂ hys₁₂ S₁₂
  rw [List.filter_eq_self.mpr (by simp)] at hys₁₂
  refine r_add S₁₂ (isL_sub hlo ((hs28.trans hs₁₂).trans S₁₂.fz)) (list_of S₁₂.head) ?_ fun F₁₃ a₁₃ s₁₃ hs₁₃ S₁₃ hl₁₃ => args_nil ?_
  · rw [hio.length, hys₁₂.length, List.length_map]
    exact Nat.le_trans (Nat.add_le_add hp.hi hp.few) (by decide +kernel)
  have S₁₃ := S₁₃.pop
  refine r_max hA.hd S₁₃ ⟨a₁₃, _, rfl, isL_sub hl₁₃ S₁₃.fz, hio.append (ints_of_all2 hys₁₂)⟩ (by rw [List.length_append]; omega) fun M₂ t₁₄ s₁₄ S₁₄ hN1 hN2 => ?_
  refine r_int S₁₄ fun t₁₅ s₁₅ S₁₅ => add_int ?_
  refine r_store (env := wenv L) (S₁₅.tok _) fun s₁₆ S₁₆ => ?_
  -- brought
  refine wpAny_execs_cons (wpAny_Assign_Name (r_ListO (args_nil ⟨_, _, _, S₁₆, by simp, fun R s₁₇ S₁₇ => ?_⟩)))
  refine r_store (env := wenv L) S₁₇.swap fun s₁₈ S₁₈ => ?_
  have hsF := (hs28.trans hs₁₂).trans hs₁₃
  obtain ⟨o0, ho0⟩ : ∃ o0, o0 ∈ ow := ⟨ow[0], List.getElem_mem _⟩
  have h1 : ∀ x ∈ ow, M₁ - 1 ≤ x := fun x hx => by have := hM2 x (List.mem_append_left _ hx); omega
  have h2 : ∀ x ∈ ow, x ≤ M₂ + 1 := fun x hx => by have := hN2 x (List.mem_append_left _ hx); omega
  exact h F₁₃ _ R _ _ _ _ _ _ _ s₁₈ (hs₂.trans hsF) S₁₈ ⟨lo, vo, rfl, isL_sub hlo hsF, hio⟩ (hst.sub hsF) hp ⟨hmo11, hms11, ⟨t, hmt11⟩, hmb11, ⟨_, rfl⟩, rfl⟩ h1 h2 (Int.le_trans (h1 o0 ho0) (h2 o0 ho0))
end
end
end Mine
end
section
open PySem PySem.W PyProof.Rows PySem.Calls
set_option Elab.async false
set_option maxRecDepth 100000
set_option maxHeartbeats 4000000
namespace Mine
noncomputable section
/-! ## law, second half -/
theorem told_way {ow : List Int} {st : List Sp} {bl ab : Int} (hp : PlanOk ow st) (h1 : ∀ x ∈ ow, bl ≤ x) (h2 : ∀ x ∈ ow, x ≤ ab) {n p : Nat} (hpn : p < ow.length) {w : Way} (hw : w ∈ waysF st n p) :
    w.1 < ow.length ∧ med (boundsF bl ab w.2).1 (ow.getD w.1 0) (boundsF bl ab w.2).2 = toldW ow w := by
  have hs := waysF_start hp.up n p w hw
  have hl : w.1 < ow.length := by omega
  have hm : ow.getD w.1 0 ∈ ow := by
    rw [List.getD_eq_getElem?_getD, List.getElem?_eq_getElem hl]
    exact List.getElem_mem _
  exact ⟨hl, told_pass (waysF_gok hp.gate n p w hw) (h1 _ hm) (h2 _ hm)⟩
theorem mx_ways {ow : List Int} {st : List Sp} {M : Int} (hp : PlanOk ow st) {n p : Nat} (h : p < n) (h1 : M ∈ (waysF st n p).map (toldW ow)) (h2 : ∀ a ∈ (waysF st n p).map (toldW ow), a ≤ M) : M = lev ow st p :=
  Mx.uniq ⟨h1, h2⟩ (ways_lev hp.up hp.gate n p h)
theorem waysF_pos (st : List Sp) (n p : Nat) : 0 < (waysF st (n + 1) p).length := by rw [waysF]; simp
section
variable {B : Shared} {F F' : Heap} {own own' : Own} {s : Shared} {w : World} {A : Around} {E : Value → Shared → Prop} {env : Env} {m : Str → Option Value}

/-- the inner loop of law: all ways to one place -/
theorem law_told {L R T it : Addr} {PI : Obj → Prop} {ov sv : Value} {ow : List Int} {st : List Sp} {tot bl ab : Int} {i : Nat} {t₀ : Tok} {xs : List Value} {Q : Flow → Shared → Prop}
    (S : St B F ((L, NsO m) :: (T, ListO []) :: (it, PI) :: (R, ListO xs) :: own) s) (hB : Bs w F) (hA : Rm 9 A) (ho : IntL F ov ow) (hst : StepL F sv st) (hp : PlanOk ow st) (hL : LL m ov sv tot bl ab R) (hmp : m "place" = some (.int i t₀)) (hmT : m "told" = some (.ref T))
    (h1 : ∀ x ∈ ow, bl ≤ x) (h2 : ∀ x ∈ ow, x ≤ ab) (hi : i < ow.length) (hxs : xs.length = i)
    (h : ∀ F' m' M t s', Sub F F' → M = lev ow st i → St B F' ((L, NsO m') :: (it, PI) :: (R, ListO (xs ++ [.int M t])) :: own) s' → LL m' ov sv tot bl ab R → Q .next s') :
    wpAny (model pg w) A (execs (match lawBody.drop 4 with | .For _ _ b _ _ :: _ => b.drop 1 | _ => []) (wenv L)) Q E s := by
  have hi6 := hp.hi
  obtain ⟨lo, vo, rfl, hlo, hio⟩ := ho
  refine wpAny_execs_cons (wpAny_For (r_CallF (fd := fdWay) (env := wenv L) S hB rfl rfl (args_cons (r_local (env := wenv L) S hmp (args_cons (r_local (env := wenv L) S hL.st (args_nil ⟨hB.sub S.fz, ?_⟩)))))))
  refine ways_spec hp.up hp.few 6 i (by omega) (by decide) S hB (hA.le (by decide)) hst fun F₅ v₅ s₅ hs₅ S₅ hW => ?_
  obtain ⟨lw, vw, rfl, hlw, hvw⟩ := hW
  refine r_loop (env := wenv L) (l := lw) (vs := vw) hA.hd
    (fun j F₃ m₃ own₃ => ∃ ys, own₃ = (T, ListO ys) :: (it, PI) :: (R, ListO xs) :: own ∧ Sub F₅ F₃ ∧ LL m₃ (.ref lo) sv tot bl ab R ∧ m₃ "told" = some (.ref T) ∧ IntsAre ys (((waysF st 6 i).take j).map (toldW ow)))
    S₅ (isL_sub hlw S₅.fz) ⟨[], rfl, Sub.refl _, hL, hmT, .nil⟩ (fun j F₁ m₁ own₁ s₁ hI S => by obtain ⟨_, _, hs, _⟩ := hI; exact isL_sub hlw (hs.trans S.fz)) ?_ ?_
  · intro it₂ j v F₁ m₁ own₁ s₁ hvj hOb1 S₁
    refine gen_turn fun Q₁ E₁ E₁' hQ₁ => ?_
    obtain ⟨ys, rfl, hsub, hL, hmT, hys⟩ := hOb1
    have hltj : j < vw.length := (List.getElem?_eq_some_iff.mp hvj).1
    obtain ⟨y, hyj⟩ : ∃ y, (waysF st 6 i)[j]? = some y := ⟨_, List.getElem?_eq_getElem (hvw.length ▸ hltj)⟩
    obtain ⟨v', hv', ly, ty, gy, rfl, hly, lg, vg, rfl, hlg, hvg⟩ := hvw.get hyj
    rw [hvj] at hv'
    cases hv'
    have hsF := hs₅.trans hsub
    have hB₁ := hB.sub hsF
    obtain ⟨hy1, hy2⟩ := told_way hp h1 h2 hi (List.mem_of_getElem? hyj)
    refine r_unpack (env := wenv L) hA.hd S₁ (isL_sub hly (hsub.trans S₁.fz)) rfl rfl fun s₂ S₂ => ?_
    refine aio_cons (wpAny_assign_Name (r_store (env := wenv L) S₂ fun s₃ S₃ => ?_))
    refine aio_cons (wpAny_assign_Name (r_store (env := wenv L) S₃ fun s₄ S₄ => aio_nil ?_))
    obtain ⟨m₄, S4, hL4, hmT4, hms4, hmg4⟩ : ∃ m₄ : Str → Option Value, St B F₁ ((L, NsO m₄) :: (it₂, IterO lw (j + 1)) :: (T, ListO ys) :: (it, PI) :: (R, ListO xs) :: own) s₄ ∧ LL m₄ (.ref lo) sv tot bl ab R ∧ m₄ "told" = some (.ref T) ∧ m₄ "start" = some (.int y.1 ty) ∧ m₄ "gates" = some (.ref lg) :=
      ⟨_, S₄, ⟨hL.o, hL.st, hL.tu, hL.be, hL.ab, hL.br⟩, hmT, rfl, rfl⟩
    clear S₁ S₂ S₃ S₄ hL hmT
    generalize IterO lw (j + 1) = PJ at S4 hQ₁
    obtain ⟨tb, hbe⟩ := hL4.be
    obtain ⟨ta, hab⟩ := hL4.ab
    -- bounds = reduce(_law_through, gates, [below, above])
    refine wpAny_execs_cons (wpAny_Assign_Name (r_CallF (env := wenv L) S4 hB₁ rfl rfl (args_cons (r_global (env := wenv L) S4 hB₁ rfl (args_cons (r_local (env := wenv L) S4 hmg4 (args_cons (r_ListF (args_cons (r_local (env := wenv L) S4 hbe (args_cons (r_local (env := wenv L) S4 hab (args_nil ?_)))))))))))))
    refine ⟨_, _, _, S4, by simp, fun F₆ a₆ s₆ hs₆ S₆ hl₆ => args_nil ⟨hB₁.sub (hs₆.trans S₆.fz), ?_⟩⟩
    refine reduce_spec (R := fun F v (b : Int × Int) => IntL F v [b.1, b.2]) (X := GateP) (g := fun b g => (med g.1 b.1 g.2, med g.1 b.2 g.2)) (k := 4) (fa := 194) (fo := fnObj fdThr) (ff := fdThr) (b₀ := (bl, ab)) S₆ (hB₁.sub hs₆) (hA.le (by decide)) ((hB₁.sub hs₆).K _ _ rfl) rfl
      (isL_sub hlg (hsub.trans hs₆)) (hvg.mono fun _ _ q => q.sub (hsub.trans hs₆)) (fun _ _ _ _ q k => q.sub k) ⟨a₆, _, rfl, hl₆, ints2 ..⟩ (.inr ⟨_, _, rfl, hl₆⟩) ?_ fun F₇ v₇ s₇ hs₇ S₇ hR => ?_
    · intro F₁ A₁ own₁ s₁ v b e x hsub₁ hA₁ S₁ hb hx Q' hQ'
      exact through_spec S₁ ((hB₁.sub hs₆).sub hsub₁) hA₁ hb hx fun F' v' s' hs' S' hv' => hQ' F' v' s' hs' S' hv'
    refine r_store (env := wenv L) S₇ fun s₈ S₈ => ?_
    have hs17 := hs₆.trans hs₇
    have hB₇ := hB₁.sub hs17
    have hR' : IntL F₇ v₇ [(boundsF bl ab y.2).1, (boundsF bl ab y.2).2] := hR
    clear hR
    generalize boundsF bl ab y.2 = bd at hR' hy2
    -- told.append(median_low([bounds[0], own[start], bounds[1]]))
    refine wpAny_execs_cons (r_append (r_local (env := wenv L) S₈ hmT4 ⟨T, ys, rfl, S₈.mem (.tail _ (.tail _ (.head _))), ?_⟩))
    refine r_CallF (fd := fdMed) (env := wenv L) S₈ hB₇ rfl rfl (args_cons (r_ListF (args_cons ?_)))
    refine r_itemC (env := wenv L) S₈ rfl hR' (by decide) (by decide) rfl fun t₉ s₉ S₉ => args_cons ?_
    refine Subscript_ (r_local (env := wenv L) S₉ hL4.o (r_local (env := wenv L) S₉ hms4 ?_))
    have howk : ow[y.1]? = some (ow.getD y.1 0) := by rw [List.getD_eq_getElem?_getD, List.getElem?_eq_getElem hy1]; rfl
    refine tail_int (ns := ow) ⟨lo, vo, rfl, isL_sub hlo ((hsF.trans hs17).trans S₉.fz), hio⟩ (by omega) (by omega) (by rw [Int.toNat_natCast]; exact howk) fun t₁₀ => args_cons ?_
    refine r_itemC (env := wenv L) S₉ rfl hR' (by decide) (by decide) rfl fun t₁₁ s₁₁ S₁₁ => args_nil ?_
    refine ⟨_, _, _, S₁₁, by simp, fun F₁₂ a₁₂ s₁₂ hs₁₂ S₁₂ hl₁₂ => args_nil ⟨(hB₇.sub hs₁₂).sub S₁₂.fz, ?_⟩⟩
    refine median_low_spec S₁₂ (hB₇.sub hs₁₂) (hA.le (by decide)) ⟨a₁₂, _, rfl, hl₁₂, ints3 ..⟩ fun F₁₃ t₁₃ s₁₃ hs₁₃ S₁₃ => ?_
    have hysl : ys.length ≤ sizeLine := by
      rw [hys.length, List.length_map]
      refine Nat.le_trans (List.length_take_le' ..) (Nat.le_trans (waysF_len st 6 i) (Nat.le_trans (Nat.pow_le_pow_left (by have := hp.few; omega : st.length + 1 ≤ 9) 6) (by decide +kernel)))
    refine ⟨_, _, _, _, ys, S₁₃, .tail (.tail .head), hysl, fun s₁₄ S₁₄ => wpAny_execs_nil (hQ₁ _ _ ⟨F₁₃, _, _, ?_, S₁₄⟩)⟩
    refine ⟨_, rfl, (hsub.trans hs17).trans (hs₁₂.trans hs₁₃), ⟨hL4.o, hL4.st, hL4.tu, hL4.be, hL4.ab, hL4.br⟩, hmT4, ?_⟩
    rw [List.take_add_one, hyj, Option.toList_some, List.map_append]
    refine hys.append ?_
    rw [hy2]
    exact .cons _ _ .nil
  · intro F₁ m₁ own₁ s₁ hOb2 S₁
    obtain ⟨ys, rfl, hsub, hL, hmT, hys⟩ := hOb2
    rw [hvw.length, List.take_length] at hys
    have hB₁ := hB.sub (hs₅.trans hsub)
    refine wpAny_execs_cons (r_append (r_local (env := wenv L) S₁ hL.br ⟨R, xs, rfl, S₁.mem (.tail _ (.tail _ (.tail _ (.head _)))), ?_⟩))
    refine r_CallB (env := wenv L) S₁ hB₁ rfl (by boot_fast) (by decide) (args_cons (r_local (env := wenv L) S₁ hmT (args_nil ?_)))
    refine r_max hA.hd S₁ ⟨T, ys, rfl, list_of (S₁.mem (.tail _ (.head _))), hys⟩ (by rw [List.length_map]; exact waysF_pos st 5 i) fun M t₂ s₂ S₂ hM1 hM2 => ?_
    refine ⟨_, _, _, _, xs, S₂, .tail (.tail (.tail .head)), by rw [hxs]; exact Nat.le_trans (m := 6) (by omega) (by decide +kernel), fun s₃ S₃ => wpAny_execs_nil ?_⟩
    exact h F₁ m₁ M t₂ s₃ (hs₅.trans hsub) (mx_ways hp (by omega) hM1 hM2) S₃.swap.pop hL
end
end
end Mine
end
section
open PySem PySem.W PyProof.Rows PySem.Calls
set_option Elab.async false
set_option maxRecDepth 100000
set_option maxHeartbeats 4000000
namespace Mine
noncomputable section
section
variable {B : Shared} {F F' : Heap} {own own' : Own} {s : Shared} {w : World} {A : Around} {E : Value → Shared → Prop} {env : Env} {m : Str → Option Value}

theorem law_two {L R : Addr} {ov sv : Value} {ow : List Int} {st : List Sp} {tot bl ab : Int} {Q : Flow → Shared → Prop}
    (S : St B F ((L, NsO m) :: (R, ListO []) :: own) s) (hB : Bs w F) (hA : Rm 9 A) (ho : IntL F ov ow) (hst : StepL F sv st) (hp : PlanOk ow st) (hL : LL m ov sv tot bl ab R)
    (h1 : ∀ x ∈ ow, bl ≤ x) (h2 : ∀ x ∈ ow, x ≤ ab)
    (h : ∀ F' m' xs s', Sub F F' → St B F' ((L, NsO m') :: (R, ListO xs) :: own) s' → LL m' ov sv tot bl ab R → IntsAre xs ((List.range ow.length).map (lev ow st)) → wpAny (model pg w) A (execs (lawBody.drop 5) (wenv L)) Q E s') :
    wpAny (model pg w) A (execs (lawBody.drop 4) (wenv L)) Q E s := by
  have hn6 := hp.hi
  obtain ⟨lo, vo, rfl, hlo, hio⟩ := ho
  have hn : vo.length = ow.length := hio.length
  refine wpAny_execs_cons (wpAny_For (r_CallT (env := wenv L) S hB rfl (by boot_fast) (by decide) (args_cons (r_CallB (env := wenv L) S hB rfl (by boot_fast) (by decide) (args_cons (r_local (env := wenv L) S hL.o (args_nil ?_)))))))
  refine r_len S (isL_sub hlo S.fz) (by omega) fun t₁ s₁ S₁ => args_nil ?_
  refine r_range1 S₁ fun F₂ r t2 t2' s₂ hs₂ S₂ hr => ?_
  refine r_loopR (env := wenv L) (N := ow.length) hA.hd
    (fun i F₁ m₁ own₁ => ∃ xs, own₁ = (R, ListO xs) :: own ∧ Sub F₂ F₁ ∧ LL m₁ (.ref lo) sv tot bl ab R ∧ IntsAre xs ((List.range i).map (lev ow st)))
    S₂ hr (small_nat (by omega)) (by rw [size_nat, hn]) ⟨[], rfl, Sub.refl _, hL, .nil⟩ ?_ ?_
  · intro it i t₀ F₁ m₁ own₁ s₁ hi hOb1 S₁
    refine gen_turn fun Q₁ E₁ E₁' hQ₁ => ?_
    obtain ⟨xs, rfl, hsub, hL, hxs⟩ := hOb1
    rw [show (0 : Int) + (i : Int) * 1 = i by omega]
    refine wpAny_assign_Name (r_store (env := wenv L) S₁ fun s₂ S₂ => ?_)
    generalize RIterO (0 + (i + 1 : Nat) * 1) (ow.length - (i + 1 : Nat)) 1 = PI at S₂ hQ₁
    refine wpAny_execs_cons (wpAny_Assign_Name (r_ListO (args_nil ⟨_, _, _, S₂, by simp, fun T s₃ S₃ => ?_⟩)))
    refine r_store (env := wenv L) S₃.swap fun s₄ S₄ => ?_
    have hsF := hs₂.trans hsub
    refine law_told S₄ (hB.sub hsF) hA ⟨lo, vo, rfl, isL_sub hlo hsF, hio⟩ (hst.sub hsF) hp ⟨hL.o, hL.st, hL.tu, hL.be, hL.ab, hL.br⟩ rfl rfl h1 h2 hi (by rw [hxs.length]; simp) fun F₅ m₅ M t s₅ hs₅ hM S₅ hL₅ => ?_
    refine hQ₁ _ _ ⟨F₅, m₅, _, ⟨xs ++ [.int M t], rfl, hsub.trans hs₅, hL₅, ?_⟩, S₅⟩
    rw [List.range_succ, List.map_append, hM]
    exact hxs.append (.cons _ _ .nil)
  · intro F₁ m₁ own₁ s₁ hOb2 S₁
    obtain ⟨xs, rfl, hsub, hL, hxs⟩ := hOb2
    exact h F₁ m₁ xs s₁ (hs₂.trans hsub) S₁ hL hxs

theorem law_three {L R : Addr} {ov sv : Value} {ow : List Int} {st : List Sp} {tot bl ab : Int} {xs : List Value} {outer : List Env} {Q : Flow → Shared → Prop}
    (S : St B F ((L, NsO m) :: (R, ListO xs) :: (196, TabO #[]) :: (177, TabO #[]) :: own) s) (hB : Bs w F) (hA : Rm 9 A) (ho : IntL F ov ow) (hst : StepL F sv st) (hp : PlanOk ow st) (hL : LL m ov sv tot bl ab R)
    (hxs : IntsAre xs ((List.range ow.length).map (lev ow st))) (hfr : A.frames = some (wenv L :: outer)) (hFm : Fm outer own)
    (h : ∀ F' ps ps' s', Sub F F' → St B F' ((196, TabO ps) :: (177, TabO ps') :: own) s' → Q (.ret (.bool true)) s') :
    wpAny (model pg w) A (execs (lawBody.drop 5) (wenv L)) Q E s := by
  obtain ⟨t, ht⟩ := hL.tu
  have hu : A.units < cLine := by have := hA.un; omega
  refine wpAny_execs_cons (wpAny_Return_some (BoolOp_and (wpAny_Compare1 (r_CallF (fd := fdRun) (env := wenv L) S hB rfl rfl (args_cons (r_local (env := wenv L) S hL.o (args_cons (r_local (env := wenv L) S hL.st (args_cons (r_local (env := wenv L) S ht (args_nil ⟨hB.sub S.fz, ?_⟩)))))))))))
  refine run_spec (outer := wenv L :: outer) (St.front [(L, NsO m), (R, ListO xs), (196, TabO #[])] S) hB hA ho hst hp hfr ?_ fun F₂ v₂ ps₂ s₂ hs₂ S₂ hv₂ => ?_
  · intro e he
    rcases List.mem_cons.mp he with rfl | he
    · exact ⟨fun e => (show ¬ (PySem.ScopeKind.function = PySem.ScopeKind.module) by decide) e, L, m, rfl, .head _⟩
    · obtain ⟨a, L', m', b, c⟩ := hFm e he
      exact ⟨a, L', m', b, List.mem_append_right _ c⟩
  have S₂ := St.back [(L, NsO m), (R, ListO xs), (196, TabO #[])] S₂
  have hB₂ := hB.sub hs₂
  obtain ⟨l₂, vs₂, rfl, hl₂, hi₂⟩ := hv₂
  refine r_local (env := wenv L) S₂ hL.br (r_eqInts hu (isL_sub hl₂ S₂.fz) (list_of (S₂.mem (.tail _ (.head _)))) hi₂ hxs (wpAny_truthy_bool ?_))
  rw [if_pos rfl]
  refine BoolOp_one (wpAny_Compare1 (r_local (env := wenv L) S₂ hL.br (r_CallF (fd := fdMark) (env := wenv L) S₂ hB₂ rfl rfl (args_cons (r_local (env := wenv L) S₂ hL.o (args_cons (r_local (env := wenv L) S₂ hL.st (args_nil ⟨hB₂.sub S₂.fz, ?_⟩))))))))
  refine marks_spec (St.front [(L, NsO m), (R, ListO xs)] S₂) hB₂ (hA.le (by decide)) (ho.sub hs₂) (hst.sub hs₂) hp fun F₃ v₃ ps₃ st' s₃ hs₃ S₃ hperm hpair hv₃ => ?_
  rw [marks_eq hperm hpair hp.up hp.inn hp.gate] at hv₃
  obtain ⟨l₃, vs₃, rfl, hl₃, hi₃⟩ := hv₃
  refine r_eqInts hu (list_of (S₃.mem (.tail _ (.tail _ (.head _))))) (isL_sub hl₃ S₃.fz) hxs hi₃ ?_
  exact h F₃ ps₃ ps₂ s₃ (hs₂.trans hs₃) (St.back [(L, NsO m), (R, ListO xs)] S₃).pop.pop

theorem law_code {v : Value} {ns : List Int} {outer : List Env} {R : Result → Shared → Prop} (S : St B F ((196, TabO #[]) :: (177, TabO #[]) :: own) s) (hB : Bs w F) (hA : Rm 10 A) (hv : IntL F v ns) (h63 : ns.length ≤ 63)
    (hfr : A.frames = some outer) (hFm : Fm outer own) (h : ∀ F' ps ps' s', Sub F F' → St B F' ((196, TabO ps) :: (177, TabO ps') :: own) s' → R (.ok (.ret (.bool true))) s') :
    codeAny (model pg w) A (.call (.ref 204) ⟨[v], []⟩) R s := by
  refine c_enter (k := 9) (fd := fdLaw) (binds := [(Str.ofString "script", v)]) S hB hA rfl rfl rfl (fun Q' hQ => wpAny_of_eq (show bindArgs fdLaw ⟨[v], []⟩ = pure [(Str.ofString "script", v)] from rfl) (hQ _ S)) (by decide) (locs rfl) fun L s₁ S₁ hA₁ => ?_
  have hfr₁ : (A.deeper (wenv L)).frames = some (wenv L :: outer) := by unfold Around.deeper; simp only [hfr]; rfl
  refine law_one S₁ hB hA₁ hv h63 rfl fun F₂ m₂ R₂ ov sv ow st tot bl ab s₂ hs₂ S₂ ho hst hp hL h1 h2 _ => ?_
  refine law_two S₂ (hB.sub hs₂) hA₁ ho hst hp hL h1 h2 fun F₃ m₃ xs s₃ hs₃ S₃ hL₃ hxs => ?_
  exact law_three S₃ ((hB.sub hs₂).sub hs₃) hA₁ (ho.sub hs₃) (hst.sub hs₃) hp hL₃ hxs hfr₁ hFm fun F₄ ps ps' s₄ hs₄ S₄ => h F₄ ps ps' s₄ ((hs₂.trans hs₃).trans hs₄) S₄
end
end
end Mine
end
section
open PySem PySem.W PyProof.Rows PySem.Calls
set_option Elab.async false
set_option maxRecDepth 100000
set_option maxHeartbeats 4000000
namespace Mine
noncomputable section
/-! ## the whole call -/
noncomputable abbrev tabs2 : List (Addr × Addr) := [(198, 196), (179, 177)]
theorem law_walk {w : World} {s₁ : Shared} {p : Program} {loose : List Str} {mean : ExcName → Option Value} {mg mb : Str → Option Value} {fa l : Addr} {vs : List Value} {ns : List Int} {R : Result → Shared → Prop}
    (T : Top p loose mean mg mb s₁.heap) (KX : Frag.In (topK w.params) s₁.heap) (hT9 : TabsAt tabs2 s₁.heap) (hg : s₁.gens = #[]) (hlaw : mg (Str.ofString "law") = some (.ref fa))
    (hL : s₁.heap.IsList l vs.toArray) (hI : IntsAre vs ns) (h63 : ns.length ≤ 63)
    (h : ∀ s', Sub (ghostOf s₁.heap tabs2) s'.heap → s'.os = s₁.os → s'.gens = #[] → GrownAll tabs2 s'.heap → R (.ok (.ret (.bool true))) s') :
    codeAny (model pg w) callerA (.call (.ref fa) ⟨[.ref l], []⟩) R s₁ := by
  have hfa : mg (Str.ofString "law") = some (.ref 204) := mg_of KX T.g rfl
  rw [hfa] at hlaw
  cases hlaw
  have KG := ghost_K hT9 KX (by kernel_rfl)
  have TG := ghost_top hT9 T
  have hB : Bs w (ghostOf s₁.heap tabs2) := by
    refine ⟨KG, ⟨_, _, _, _, topRead_of TG⟩, ?_⟩
    obtain ⟨bm, ob, a1, _, a3, a4, a5, a6⟩ := TG.bmain
    have e : mg "__builtins__" = some (.ref 4) := mg_of KG TG.g rfl
    rw [e] at a1
    cases a1
    exact ⟨ob, a3, a4, a5, a6⟩
  have S : St s₁ (ghostOf s₁.heap tabs2) [(196, TabO #[]), (177, TabO #[])] s₁ := by
    refine ⟨rfl, rfl, rfl, fun b o e => of_hideAll _ e, fun q hq => ?_, by decide⟩
    rcases List.mem_cons.mp hq with rfl | hq
    · exact ⟨hideAll_none _ (.head _), _, (hT9 _ (.head _)).2, rfl⟩
    · rcases List.mem_cons.mp hq with rfl | hq
      · exact ⟨hideAll_none _ (.tail _ (.head _)), _, (hT9 _ (.tail _ (.head _))).2, rfl⟩
      · cases hq
  have hA : Rm 10 callerA := ⟨rfl, by decide +kernel, by decide +kernel⟩
  refine law_code (own := []) (outer := []) S hB hA ⟨l, vs, rfl, ghost_list hT9 hL, hI⟩ h63 rfl (fun e he => nomatch he) fun F' ps ps' s' hs' S' => ?_
  obtain ⟨_, e1, rfl⟩ := S'.mem (a := 196) (P := TabO ps) (.head _)
  obtain ⟨_, e2, rfl⟩ := S'.mem (a := 177) (P := TabO ps') (.tail _ (.head _))
  exact h s' (fun b o e => S'.fz _ _ (hs' _ _ e)) S'.os (S'.gens.trans hg) ⟨⟨ps, e1⟩, ⟨ps', e2⟩, trivial⟩
theorem tabs_at {w : World} {h : Heap} (KX : Frag.In (topK w.params) h) (hT : ∀ P ∈ [196, 177], h.get? P = some (tabObj #[])) : TabsAt tabs2 h := by
  intro q hq
  rcases List.mem_cons.mp hq with rfl | hq
  · exact ⟨codeHd_of_K (c := 198) (P := 196) KX (by kernel_rfl), hT 196 (.head _)⟩
  · rcases List.mem_cons.mp hq with rfl | hq
    · exact ⟨codeHd_of_K (c := 179) (P := 177) KX (by kernel_rfl), hT 177 (.tail _ (.head _))⟩
    · cases hq
end
end Mine
set_option maxHeartbeats 8000000 in
theorem PySem.Challenge.cw_op0170_01_holds : PySem.Challenge.rw_op0170_01.Holds := by
  refine Mine.head ?_
  intro w s₀ s₁ mg mb G Y fa o pm cd doc dV kV ho hd hcd hD hmg hg args vals as hpre hlay hrd hwl hlo
  have KX := km_in_of Y
  have hT9 := Mine.tabs_at KX (km_tabs_of Y)
  refine Ground.open G ?_
  intro T B D TE TW
  have hlaw : mg (PySem.Str.ofString "law") = some (.ref fa) := hmg
  clear hd hcd hD ho hmg
  w_on
  wrow_args hpre hlay hrd hwl hlo
  refine enter_call ?_
  refine kn_post hT9 (fun _ _ => rfl) ?_
  rename_i hI _ _ _
  refine Mine.law_walk T KX hT9 hg hlaw (by assumption) hI (by omega) fun s' hs' hos' hg' hgr' => ⟨⟨.inl ⟨.bool true, .bool true, [], rfl, fun _ => rfl, .bool true, ?_, unshared_nil⟩, hs', hos', hg'⟩, hgr'⟩
  exact postW_of (by wrow_shape) (by wtm_val) (by w_fin)
end
