import PyProof.Rows.All
import Wide.All
import OpenK.AllK
import Wide.FinOn
import PySem.Challenge.RW_ij0208_01
open PySem PySem.W PyProof.Rows PySem.Calls
set_option Elab.async false
set_option maxRecDepth 100000
set_option maxHeartbeats 8000000
set_option linter.unusedVariables false
set_option linter.unusedSimpArgs false
set_option compiler.extract_closed false
set_option genSizeOfSpec false
set_option rowWalk.seconds 0
namespace Mine
noncomputable def stA (i : Nat) : Stmt := (Challenge.pw_ij0208_01.main.body[i]?).getD (.Pass ⟨0, 0, 0, 0⟩)
noncomputable def stB (i j : Nat) : Stmt := match stA i with
  | .ClassDef _ _ _ b _ _ _ _ _ _ _ => (b[j]?).getD (.Pass ⟨0, 0, 0, 0⟩)
  | s => s
noncomputable def fnD (s : Stmt) (qual : Str) (dV kV doc pm code ct : Value) : Data := match s with
  | .FunctionDef name params body _ _ _ scope _ _ _ => .func { name := name, qualname := qual, params := params, body := .stmts body, scope := scope, globals := 3, closure := [], defaults := dV, kwdefaults := kV, doc := doc, pyModule := pm, annotations := none, code := code, closureTuple := ct, builtins := 0 }
  | _ => .plain
noncomputable def hd.view_39 : Program := { Challenge.pw_ij0208_01 with main := { Challenge.pw_ij0208_01.main with body := [stA 0, stA 2, stA 4, stA 6, stA 7, stA 8, stA 9, stA 10, stA 12, stA 13, stA 14, stA 15] } }
noncomputable def hd.heap_39 (P : Params) : Frag := [(nat_lit 2, Obj.mk (Value.none) (none) (Data.dict #[]) #[]),
  (nat_lit 3, Obj.mk (Value.type "dict") (none) (Data.dict #[DictEntry.mk (PyData.keyHash P (Str.ofString "__name__")) (Value.str (Str.ofString "__name__") 165) (Value.str (Str.ofString "law_ij0208_01") 438), DictEntry.mk (PyData.keyHash P (Str.ofString "__doc__")) (Value.str (Str.ofString "__doc__") 166) Value.none, DictEntry.mk (PyData.keyHash P (Str.ofString "__package__")) (Value.str (Str.ofString "__package__") 167) Value.none, DictEntry.mk (PyData.keyHash P (Str.ofString "__loader__")) (Value.str (Str.ofString "__loader__") 168) (Value.builtin "__main__.__loader__#opaque"), DictEntry.mk (PyData.keyHash P (Str.ofString "__spec__")) (Value.str (Str.ofString "__spec__") 169) Value.none, DictEntry.mk (PyData.keyHash P (Str.ofString "__annotations__")) (Value.str (Str.ofString "__annotations__") 170) (Value.ref 6), DictEntry.mk (PyData.keyHash P (Str.ofString "__builtins__")) (Value.str (Str.ofString "__builtins__") 171) (Value.ref 4), DictEntry.mk (PyData.keyHash P (Str.ofString "__file__")) (Value.str (Str.ofString "__file__") 173) (Value.str (Str.ofString "/claim/cut.py") 172), DictEntry.mk (PyData.keyHash P (Str.ofString "__cached__")) (Value.str (Str.ofString "__cached__") 174) Value.none, DictEntry.mk (PyData.keyHash P (Str.ofString "_wall")) (Value.str (Str.ofString "_wall") 193) (Value.ref 21), DictEntry.mk (PyData.keyHash P (Str.ofString "filterfalse")) (Value.str (Str.ofString "filterfalse") 245) (Value.ref 54), DictEntry.mk (PyData.keyHash P (Str.ofString "_filter")) (Value.str (Str.ofString "_filter") 255) (Value.ref 65), DictEntry.mk (PyData.keyHash P (Str.ofString "_NODE_OUT")) (Value.str (Str.ofString "_NODE_OUT") 260) (Value.int (-1) 259), DictEntry.mk (PyData.keyHash P (Str.ofString "_NODE_DONE")) (Value.str (Str.ofString "_NODE_DONE") 263) (Value.int (-2) 262), DictEntry.mk (PyData.keyHash P (Str.ofString "_NodeInfo")) (Value.str (Str.ofString "_NodeInfo") 300) (Value.ref 84), DictEntry.mk (PyData.keyHash P (Str.ofString "CycleError")) (Value.str (Str.ofString "CycleError") 318) (Value.ref 99), DictEntry.mk (PyData.keyHash P (Str.ofString "TopologicalSorter")) (Value.str (Str.ofString "TopologicalSorter") 437) (Value.ref 181), DictEntry.mk (PyData.keyHash P (Str.ofString "_law_lists")) (Value.str (Str.ofString "_law_lists") 445) (Value.ref 190), DictEntry.mk (PyData.keyHash P (Str.ofString "_law_ways")) (Value.str (Str.ofString "_law_ways") 451) (Value.ref 195), DictEntry.mk (PyData.keyHash P (Str.ofString "_law_ring")) (Value.str (Str.ofString "_law_ring") 458) (Value.ref 202), DictEntry.mk (PyData.keyHash P (Str.ofString "law")) (Value.str (Str.ofString "law") 464) (Value.ref 207)] 21) #[]),
  (nat_lit 15, Obj.mk (Value.type "tuple") (none) (Data.seq #[]) #[]),
  (nat_lit 17, Obj.mk (Value.type "tuple") (none) (Data.seq #[Value.str (Str.ofString "k") 190]) #[]),
  (nat_lit 18, Obj.mk (Value.type "tuple") (none) (Data.seq #[]) #[]),
  (nat_lit 20, Obj.mk (Value.type "code") (none) (Data.fields #[Value.str (Str.ofString "_wall") 187, Value.str (Str.ofString "_wall") 188, Value.str (Str.ofString "/claim/cut.py") 189, Value.int 1 0, Value.int 1 0, Value.int 0 0, Value.int 0 0, Value.int 3 0, Value.ref 15, Value.bool Bool.true, Value.int 181 0, Value.ref 16, Value.none, Value.ref 17, Value.ref 18, Value.ref 19, Value.int 191 0, Value.int 1 0, Value.str (Str.ofString "/claim/cut.py") 192]) #[]),
  (nat_lit 21, Obj.mk (Value.type "function") (none) (fnD (stA 0) (Str.ofString "_wall") (Value.none) (Value.none) (Value.none) (Value.str (Str.ofString "__main__") 164) (Value.ref 20) (Value.none)) #[]),
  (nat_lit 29, Obj.mk (Value.type "tuple") (none) (Data.seq #[Value.str (Str.ofString "_it") 208, Value.str (Str.ofString "_func") 209]) #[]),
  (nat_lit 30, Obj.mk (Value.type "tuple") (none) (Data.seq #[]) #[]),
  (nat_lit 32, Obj.mk (Value.type "tuple") (none) (Data.seq #[Value.str (Str.ofString "self") 214, Value.str (Str.ofString "function") 215, Value.str (Str.ofString "iterable") 216]) #[]),
  (nat_lit 33, Obj.mk (Value.type "tuple") (none) (Data.seq #[]) #[]),
  (nat_lit 35, Obj.mk (Value.type "code") (none) (Data.fields #[Value.str (Str.ofString "__init__") 211, Value.str (Str.ofString "filterfalse.__init__") 212, Value.str (Str.ofString "/claim/cut.py") 213, Value.int 8 0, Value.int 3 0, Value.int 3 0, Value.int 0 0, Value.int 3 0, Value.ref 30, Value.bool Bool.true, Value.int 181 0, Value.ref 31, Value.none, Value.ref 32, Value.ref 33, Value.ref 34, Value.int 217 0, Value.int 8 0, Value.str (Str.ofString "/claim/cut.py") 218]) #[]),
  (nat_lit 36, Obj.mk (Value.type "function") (none) (fnD (stB 2 1) (Str.ofString "filterfalse.__init__") (Value.none) (Value.none) (Value.none) (Value.str (Str.ofString "itertools") 194) (Value.ref 35) (Value.none)) #[]),
  (nat_lit 37, Obj.mk (Value.type "tuple") (none) (Data.seq #[]) #[]),
  (nat_lit 39, Obj.mk (Value.type "tuple") (none) (Data.seq #[Value.str (Str.ofString "self") 223]) #[]),
  (nat_lit 40, Obj.mk (Value.type "tuple") (none) (Data.seq #[]) #[]),
  (nat_lit 42, Obj.mk (Value.type "code") (none) (Data.fields #[Value.str (Str.ofString "__iter__") 220, Value.str (Str.ofString "filterfalse.__iter__") 221, Value.str (Str.ofString "/claim/cut.py") 222, Value.int 12 0, Value.int 1 0, Value.int 0 0, Value.int 0 0, Value.int 3 0, Value.ref 37, Value.bool Bool.true, Value.int 181 0, Value.ref 38, Value.none, Value.ref 39, Value.ref 40, Value.ref 41, Value.int 224 0, Value.int 12 0, Value.str (Str.ofString "/claim/cut.py") 225]) #[]),
  (nat_lit 43, Obj.mk (Value.type "function") (none) (fnD (stB 2 2) (Str.ofString "filterfalse.__iter__") (Value.none) (Value.none) (Value.none) (Value.str (Str.ofString "itertools") 194) (Value.ref 42) (Value.none)) #[]),
  (nat_lit 44, Obj.mk (Value.type "tuple") (none) (Data.seq #[]) #[]),
  (nat_lit 46, Obj.mk (Value.type "tuple") (none) (Data.seq #[Value.str (Str.ofString "self") 230, Value.str (Str.ofString "func") 231, Value.str (Str.ofString "item") 232]) #[]),
  (nat_lit 47, Obj.mk (Value.type "tuple") (none) (Data.seq #[]) #[]),
  (nat_lit 49, Obj.mk (Value.type "code") (none) (Data.fields #[Value.str (Str.ofString "__next__") 227, Value.str (Str.ofString "filterfalse.__next__") 228, Value.str (Str.ofString "/claim/cut.py") 229, Value.int 15 0, Value.int 1 0, Value.int 0 0, Value.int 0 0, Value.int 3 0, Value.ref 44, Value.bool Bool.true, Value.int 181 0, Value.ref 45, Value.none, Value.ref 46, Value.ref 47, Value.ref 48, Value.int 233 0, Value.int 15 0, Value.str (Str.ofString "/claim/cut.py") 234]) #[]),
  (nat_lit 50, Obj.mk (Value.type "function") (none) (fnD (stB 2 3) (Str.ofString "filterfalse.__next__") (Value.none) (Value.none) (Value.none) (Value.str (Str.ofString "itertools") 194) (Value.ref 49) (Value.none)) #[]),
  (nat_lit 51, Obj.mk (Value.type "tuple") (none) (Data.seq #[Value.str (Str.ofString "_func") 236, Value.str (Str.ofString "_it") 237]) #[]),
  (nat_lit 53, Obj.mk (Value.type "dict") (none) (Data.dict #[DictEntry.mk (PyData.keyHash P (Str.ofString "__module__")) (Value.str (Str.ofString "__module__") 203) (Value.str (Str.ofString "itertools") 194), DictEntry.mk (PyData.keyHash P (Str.ofString "__firstlineno__")) (Value.str (Str.ofString "__firstlineno__") 207) (Value.int 5 206), DictEntry.mk (PyData.keyHash P (Str.ofString "__slots__")) (Value.str (Str.ofString "__slots__") 210) (Value.ref 29), DictEntry.mk (PyData.keyHash P (Str.ofString "__init__")) (Value.str (Str.ofString "__init__") 219) (Value.ref 36), DictEntry.mk (PyData.keyHash P (Str.ofString "__iter__")) (Value.str (Str.ofString "__iter__") 226) (Value.ref 43), DictEntry.mk (PyData.keyHash P (Str.ofString "__next__")) (Value.str (Str.ofString "__next__") 235) (Value.ref 50), DictEntry.mk (PyData.keyHash P (Str.ofString "__static_attributes__")) (Value.str (Str.ofString "__static_attributes__") 238) (Value.ref 51), DictEntry.mk (PyData.keyHash P (Str.ofString "_func")) (Value.str (Str.ofString "_func") 240) (Value.ref 55), DictEntry.mk (PyData.keyHash P (Str.ofString "_it")) (Value.str (Str.ofString "_it") 242) (Value.ref 56), DictEntry.mk (PyData.keyHash P (Str.ofString "__doc__")) (Value.str (Str.ofString "__doc__") 243) Value.none] 4) #[]),
  (nat_lit 54, Obj.mk (Value.type "type") (none) (Data.cls (ClassData.mk (Str.ofString "filterfalse") [Value.type "object"] [Value.ref 54, Value.type "object"] 53 (Str.ofString "filterfalse") Bool.false [(Str.ofString "_func"), (Str.ofString "_it")] [] Bool.false none Bool.false)) #[none, none, some (Value.str (Str.ofString "filterfalse") 196), some (Value.str (Str.ofString "filterfalse") 204), some (Value.builtin "object.__new__"), some (Value.bool Bool.false)]),
  (nat_lit 55, Obj.mk (Value.type "member_descriptor") (none) (Data.fields #[Value.str (Str.ofString "_func") 239, Value.ref 54, Value.builtin "proto.slot", Value.builtin "proto.slot#set", Value.int 1 0]) #[]),
  (nat_lit 56, Obj.mk (Value.type "member_descriptor") (none) (Data.fields #[Value.str (Str.ofString "_it") 241, Value.ref 54, Value.builtin "proto.slot", Value.builtin "proto.slot#set", Value.int 0 0]) #[]),
  (nat_lit 59, Obj.mk (Value.type "tuple") (none) (Data.seq #[]) #[]),
  (nat_lit 61, Obj.mk (Value.type "tuple") (none) (Data.seq #[Value.str (Str.ofString "flist") 251, Value.str (Str.ofString "skip") 252]) #[]),
  (nat_lit 62, Obj.mk (Value.type "tuple") (none) (Data.seq #[]) #[]),
  (nat_lit 64, Obj.mk (Value.type "code") (none) (Data.fields #[Value.str (Str.ofString "_filter") 248, Value.str (Str.ofString "_filter") 249, Value.str (Str.ofString "/claim/cut.py") 250, Value.int 25 0, Value.int 2 0, Value.int 0 0, Value.int 0 0, Value.int 3 0, Value.ref 59, Value.bool Bool.true, Value.int 181 0, Value.ref 60, Value.none, Value.ref 61, Value.ref 62, Value.ref 63, Value.int 253 0, Value.int 25 0, Value.str (Str.ofString "/claim/cut.py") 254]) #[]),
  (nat_lit 65, Obj.mk (Value.type "function") (none) (fnD (stA 4) (Str.ofString "_filter") (Value.none) (Value.none) (Value.none) (Value.str (Str.ofString "cpy313.filecmp") 246) (Value.ref 64) (Value.none)) #[]),
  (nat_lit 73, Obj.mk (Value.type "tuple") (none) (Data.seq #[Value.str (Str.ofString "node") 276, Value.str (Str.ofString "npredecessors") 277, Value.str (Str.ofString "successors") 278]) #[]),
  (nat_lit 74, Obj.mk (Value.type "tuple") (none) (Data.seq #[]) #[]),
  (nat_lit 76, Obj.mk (Value.type "tuple") (none) (Data.seq #[Value.str (Str.ofString "self") 283, Value.str (Str.ofString "node") 284]) #[]),
  (nat_lit 77, Obj.mk (Value.type "tuple") (none) (Data.seq #[]) #[]),
  (nat_lit 79, Obj.mk (Value.type "code") (none) (Data.fields #[Value.str (Str.ofString "__init__") 280, Value.str (Str.ofString "_NodeInfo.__init__") 281, Value.str (Str.ofString "/claim/cut.py") 282, Value.int 33 0, Value.int 2 0, Value.int 0 0, Value.int 0 0, Value.int 3 0, Value.ref 74, Value.bool Bool.true, Value.int 181 0, Value.ref 75, Value.none, Value.ref 76, Value.ref 77, Value.ref 78, Value.int 285 0, Value.int 33 0, Value.str (Str.ofString "/claim/cut.py") 286]) #[]),
  (nat_lit 80, Obj.mk (Value.type "function") (none) (fnD (stB 8 1) (Str.ofString "_NodeInfo.__init__") (Value.none) (Value.none) (Value.none) (Value.str (Str.ofString "cpy313.graphlib") 256) (Value.ref 79) (Value.none)) #[]),
  (nat_lit 81, Obj.mk (Value.type "tuple") (none) (Data.seq #[Value.str (Str.ofString "node") 288, Value.str (Str.ofString "npredecessors") 289, Value.str (Str.ofString "successors") 290]) #[]),
  (nat_lit 83, Obj.mk (Value.type "dict") (none) (Data.dict #[DictEntry.mk (PyData.keyHash P (Str.ofString "__module__")) (Value.str (Str.ofString "__module__") 271) (Value.str (Str.ofString "cpy313.graphlib") 256), DictEntry.mk (PyData.keyHash P (Str.ofString "__firstlineno__")) (Value.str (Str.ofString "__firstlineno__") 275) (Value.int 30 274), DictEntry.mk (PyData.keyHash P (Str.ofString "__slots__")) (Value.str (Str.ofString "__slots__") 279) (Value.ref 73), DictEntry.mk (PyData.keyHash P (Str.ofString "__init__")) (Value.str (Str.ofString "__init__") 287) (Value.ref 80), DictEntry.mk (PyData.keyHash P (Str.ofString "__static_attributes__")) (Value.str (Str.ofString "__static_attributes__") 291) (Value.ref 81), DictEntry.mk (PyData.keyHash P (Str.ofString "node")) (Value.str (Str.ofString "node") 293) (Value.ref 85), DictEntry.mk (PyData.keyHash P (Str.ofString "npredecessors")) (Value.str (Str.ofString "npredecessors") 295) (Value.ref 86), DictEntry.mk (PyData.keyHash P (Str.ofString "successors")) (Value.str (Str.ofString "successors") 297) (Value.ref 87), DictEntry.mk (PyData.keyHash P (Str.ofString "__doc__")) (Value.str (Str.ofString "__doc__") 298) Value.none] 5) #[]),
  (nat_lit 84, Obj.mk (Value.type "type") (none) (Data.cls (ClassData.mk (Str.ofString "_NodeInfo") [Value.type "object"] [Value.ref 84, Value.type "object"] 83 (Str.ofString "_NodeInfo") Bool.false [(Str.ofString "node"), (Str.ofString "npredecessors"), (Str.ofString "successors")] [] Bool.false none Bool.false)) #[none, none, some (Value.str (Str.ofString "_NodeInfo") 264), some (Value.str (Str.ofString "_NodeInfo") 272), some (Value.builtin "object.__new__"), some (Value.bool Bool.false)]),
  (nat_lit 85, Obj.mk (Value.type "member_descriptor") (none) (Data.fields #[Value.str (Str.ofString "node") 292, Value.ref 84, Value.builtin "proto.slot", Value.builtin "proto.slot#set", Value.int 2 0]) #[]),
  (nat_lit 86, Obj.mk (Value.type "member_descriptor") (none) (Data.fields #[Value.str (Str.ofString "npredecessors") 294, Value.ref 84, Value.builtin "proto.slot", Value.builtin "proto.slot#set", Value.int 1 0]) #[]),
  (nat_lit 87, Obj.mk (Value.type "member_descriptor") (none) (Data.fields #[Value.str (Str.ofString "successors") 296, Value.ref 84, Value.builtin "proto.slot", Value.builtin "proto.slot#set", Value.int 0 0]) #[]),
  (nat_lit 90, Obj.mk (Value.type "tuple") (none) (Data.seq #[Value.type "ValueError"]) #[]),
  (nat_lit 97, Obj.mk (Value.type "tuple") (none) (Data.seq #[]) #[]),
  (nat_lit 98, Obj.mk (Value.type "dict") (none) (Data.dict #[DictEntry.mk (PyData.keyHash P (Str.ofString "__module__")) (Value.str (Str.ofString "__module__") 308) (Value.str (Str.ofString "cpy313.graphlib") 256), DictEntry.mk (PyData.keyHash P (Str.ofString "__firstlineno__")) (Value.str (Str.ofString "__firstlineno__") 312) (Value.int 37 311), DictEntry.mk (PyData.keyHash P (Str.ofString "__static_attributes__")) (Value.str (Str.ofString "__static_attributes__") 313) (Value.ref 97), DictEntry.mk (PyData.keyHash P (Str.ofString "__weakref__")) (Value.str (Str.ofString "__weakref__") 315) (Value.ref 100), DictEntry.mk (PyData.keyHash P (Str.ofString "__doc__")) (Value.str (Str.ofString "__doc__") 316) Value.none] 3) #[]),
  (nat_lit 99, Obj.mk (Value.type "type") (none) (Data.cls (ClassData.mk (Str.ofString "CycleError") [Value.type "ValueError"] [Value.ref 99, Value.type "ValueError", Value.type "Exception", Value.type "BaseException", Value.type "object"] 98 (Str.ofString "CycleError") Bool.true [] [] Bool.false none Bool.false)) #[some (Value.ref 90), none, some (Value.str (Str.ofString "CycleError") 301), some (Value.str (Str.ofString "CycleError") 309), some (Value.builtin "ValueError.__new__"), some (Value.bool Bool.true)]),
  (nat_lit 100, Obj.mk (Value.type "getset_descriptor") (none) (Data.fields #[Value.str (Str.ofString "__weakref__") 314, Value.ref 99, Value.builtin "ExceptionGroup.__weakref__", Value.none]) #[]),
  (nat_lit 110, Obj.mk (Value.type "tuple") (none) (Data.seq #[Value.none]) #[]),
  (nat_lit 111, Obj.mk (Value.type "tuple") (none) (Data.seq #[]) #[]),
  (nat_lit 113, Obj.mk (Value.type "tuple") (none) (Data.seq #[Value.str (Str.ofString "self") 334, Value.str (Str.ofString "graph") 335, Value.str (Str.ofString "node") 336, Value.str (Str.ofString "predecessors") 337]) #[]),
  (nat_lit 114, Obj.mk (Value.type "tuple") (none) (Data.seq #[]) #[]),
  (nat_lit 116, Obj.mk (Value.type "code") (none) (Data.fields #[Value.str (Str.ofString "__init__") 331, Value.str (Str.ofString "TopologicalSorter.__init__") 332, Value.str (Str.ofString "/claim/cut.py") 333, Value.int 41 0, Value.int 2 0, Value.int 0 0, Value.int 0 0, Value.int 3 0, Value.ref 111, Value.bool Bool.true, Value.int 181 0, Value.ref 112, Value.none, Value.ref 113, Value.ref 114, Value.ref 115, Value.int 338 0, Value.int 41 0, Value.str (Str.ofString "/claim/cut.py") 339]) #[]),
  (nat_lit 117, Obj.mk (Value.type "function") (none) (fnD (stB 10 0) (Str.ofString "TopologicalSorter.__init__") (Value.ref 110) (Value.none) (Value.none) (Value.str (Str.ofString "cpy313.graphlib") 256) (Value.ref 116) (Value.none)) #[]),
  (nat_lit 118, Obj.mk (Value.type "tuple") (none) (Data.seq #[]) #[]),
  (nat_lit 120, Obj.mk (Value.type "tuple") (none) (Data.seq #[Value.str (Str.ofString "self") 344, Value.str (Str.ofString "node") 345, Value.str (Str.ofString "result") 346]) #[]),
  (nat_lit 121, Obj.mk (Value.type "tuple") (none) (Data.seq #[]) #[]),
  (nat_lit 123, Obj.mk (Value.type "code") (none) (Data.fields #[Value.str (Str.ofString "_get_nodeinfo") 341, Value.str (Str.ofString "TopologicalSorter._get_nodeinfo") 342, Value.str (Str.ofString "/claim/cut.py") 343, Value.int 50 0, Value.int 2 0, Value.int 0 0, Value.int 0 0, Value.int 3 0, Value.ref 118, Value.bool Bool.true, Value.int 181 0, Value.ref 119, Value.none, Value.ref 120, Value.ref 121, Value.ref 122, Value.int 347 0, Value.int 50 0, Value.str (Str.ofString "/claim/cut.py") 348]) #[]),
  (nat_lit 124, Obj.mk (Value.type "function") (none) (fnD (stB 10 1) (Str.ofString "TopologicalSorter._get_nodeinfo") (Value.none) (Value.none) (Value.none) (Value.str (Str.ofString "cpy313.graphlib") 256) (Value.ref 123) (Value.none)) #[]),
  (nat_lit 125, Obj.mk (Value.type "tuple") (none) (Data.seq #[]) #[]),
  (nat_lit 127, Obj.mk (Value.type "tuple") (none) (Data.seq #[Value.str (Str.ofString "self") 353, Value.str (Str.ofString "node") 354, Value.str (Str.ofString "predecessors") 355, Value.str (Str.ofString "nodeinfo") 356, Value.str (Str.ofString "pred") 357, Value.str (Str.ofString "pred_info") 358]) #[]),
  (nat_lit 128, Obj.mk (Value.type "tuple") (none) (Data.seq #[]) #[]),
  (nat_lit 130, Obj.mk (Value.type "code") (none) (Data.fields #[Value.str (Str.ofString "add") 350, Value.str (Str.ofString "TopologicalSorter.add") 351, Value.str (Str.ofString "/claim/cut.py") 352, Value.int 55 0, Value.int 2 0, Value.int 0 0, Value.int 0 0, Value.int 7 0, Value.ref 125, Value.bool Bool.true, Value.int 181 0, Value.ref 126, Value.none, Value.ref 127, Value.ref 128, Value.ref 129, Value.int 359 0, Value.int 55 0, Value.str (Str.ofString "/claim/cut.py") 360]) #[]),
  (nat_lit 131, Obj.mk (Value.type "function") (none) (fnD (stB 10 2) (Str.ofString "TopologicalSorter.add") (Value.none) (Value.none) (Value.none) (Value.str (Str.ofString "cpy313.graphlib") 256) (Value.ref 130) (Value.none)) #[]),
  (nat_lit 132, Obj.mk (Value.type "tuple") (none) (Data.seq #[]) #[]),
  (nat_lit 135, Obj.mk (Value.type "code") (none) (Data.fields #[Value.str (Str.ofString "prepare") 362, Value.str (Str.ofString "TopologicalSorter.prepare") 363, Value.str (Str.ofString "/claim/cut.py") 364, Value.int 64 0, Value.int 1 0, Value.int 0 0, Value.int 0 0, Value.int 3 0, Value.ref 132, Value.bool Bool.true, Value.int 181 0, Value.ref 133, Value.none, Value.none, Value.none, Value.ref 134, Value.int 365 0, Value.int 64 0, Value.str (Str.ofString "/claim/cut.py") 366]) #[]),
  (nat_lit 136, Obj.mk (Value.type "function") (none) (fnD (stB 10 3) (Str.ofString "TopologicalSorter.prepare") (Value.none) (Value.none) (Value.none) (Value.str (Str.ofString "cpy313.graphlib") 256) (Value.ref 135) (Value.none)) #[]),
  (nat_lit 137, Obj.mk (Value.type "tuple") (none) (Data.seq #[]) #[]),
  (nat_lit 139, Obj.mk (Value.type "tuple") (none) (Data.seq #[Value.str (Str.ofString "self") 371, Value.str (Str.ofString "result") 372, Value.str (Str.ofString "n2i") 373, Value.str (Str.ofString "node") 374]) #[]),
  (nat_lit 140, Obj.mk (Value.type "tuple") (none) (Data.seq #[]) #[]),
  (nat_lit 142, Obj.mk (Value.type "code") (none) (Data.fields #[Value.str (Str.ofString "get_ready") 368, Value.str (Str.ofString "TopologicalSorter.get_ready") 369, Value.str (Str.ofString "/claim/cut.py") 370, Value.int 72 0, Value.int 1 0, Value.int 0 0, Value.int 0 0, Value.int 3 0, Value.ref 137, Value.bool Bool.true, Value.int 181 0, Value.ref 138, Value.none, Value.ref 139, Value.ref 140, Value.ref 141, Value.int 375 0, Value.int 72 0, Value.str (Str.ofString "/claim/cut.py") 376]) #[]),
  (nat_lit 143, Obj.mk (Value.type "function") (none) (fnD (stB 10 4) (Str.ofString "TopologicalSorter.get_ready") (Value.none) (Value.none) (Value.none) (Value.str (Str.ofString "cpy313.graphlib") 256) (Value.ref 142) (Value.none)) #[]),
  (nat_lit 144, Obj.mk (Value.type "tuple") (none) (Data.seq #[]) #[]),
  (nat_lit 146, Obj.mk (Value.type "tuple") (none) (Data.seq #[Value.str (Str.ofString "self") 381]) #[]),
  (nat_lit 147, Obj.mk (Value.type "tuple") (none) (Data.seq #[]) #[]),
  (nat_lit 149, Obj.mk (Value.type "code") (none) (Data.fields #[Value.str (Str.ofString "is_active") 378, Value.str (Str.ofString "TopologicalSorter.is_active") 379, Value.str (Str.ofString "/claim/cut.py") 380, Value.int 83 0, Value.int 1 0, Value.int 0 0, Value.int 0 0, Value.int 3 0, Value.ref 144, Value.bool Bool.true, Value.int 181 0, Value.ref 145, Value.none, Value.ref 146, Value.ref 147, Value.ref 148, Value.int 382 0, Value.int 83 0, Value.str (Str.ofString "/claim/cut.py") 383]) #[]),
  (nat_lit 150, Obj.mk (Value.type "function") (none) (fnD (stB 10 5) (Str.ofString "TopologicalSorter.is_active") (Value.none) (Value.none) (Value.none) (Value.str (Str.ofString "cpy313.graphlib") 256) (Value.ref 149) (Value.none)) #[]),
  (nat_lit 151, Obj.mk (Value.type "tuple") (none) (Data.seq #[]) #[]),
  (nat_lit 153, Obj.mk (Value.type "tuple") (none) (Data.seq #[Value.str (Str.ofString "self") 388]) #[]),
  (nat_lit 154, Obj.mk (Value.type "tuple") (none) (Data.seq #[]) #[]),
  (nat_lit 156, Obj.mk (Value.type "code") (none) (Data.fields #[Value.str (Str.ofString "__bool__") 385, Value.str (Str.ofString "TopologicalSorter.__bool__") 386, Value.str (Str.ofString "/claim/cut.py") 387, Value.int 88 0, Value.int 1 0, Value.int 0 0, Value.int 0 0, Value.int 3 0, Value.ref 151, Value.bool Bool.true, Value.int 181 0, Value.ref 152, Value.none, Value.ref 153, Value.ref 154, Value.ref 155, Value.int 389 0, Value.int 88 0, Value.str (Str.ofString "/claim/cut.py") 390]) #[]),
  (nat_lit 157, Obj.mk (Value.type "function") (none) (fnD (stB 10 6) (Str.ofString "TopologicalSorter.__bool__") (Value.none) (Value.none) (Value.none) (Value.str (Str.ofString "cpy313.graphlib") 256) (Value.ref 156) (Value.none)) #[]),
  (nat_lit 158, Obj.mk (Value.type "tuple") (none) (Data.seq #[]) #[]),
  (nat_lit 160, Obj.mk (Value.type "tuple") (none) (Data.seq #[Value.str (Str.ofString "self") 395, Value.str (Str.ofString "nodes") 396, Value.str (Str.ofString "n2i") 397, Value.str (Str.ofString "node") 398, Value.str (Str.ofString "nodeinfo") 399, Value.str (Str.ofString "stat") 400, Value.str (Str.ofString "successor") 401, Value.str (Str.ofString "successor_info") 402]) #[]),
  (nat_lit 161, Obj.mk (Value.type "tuple") (none) (Data.seq #[]) #[]),
  (nat_lit 163, Obj.mk (Value.type "code") (none) (Data.fields #[Value.str (Str.ofString "done") 392, Value.str (Str.ofString "TopologicalSorter.done") 393, Value.str (Str.ofString "/claim/cut.py") 394, Value.int 91 0, Value.int 1 0, Value.int 0 0, Value.int 0 0, Value.int 7 0, Value.ref 158, Value.bool Bool.true, Value.int 181 0, Value.ref 159, Value.none, Value.ref 160, Value.ref 161, Value.ref 162, Value.int 403 0, Value.int 91 0, Value.str (Str.ofString "/claim/cut.py") 404]) #[]),
  (nat_lit 164, Obj.mk (Value.type "function") (none) (fnD (stB 10 7) (Str.ofString "TopologicalSorter.done") (Value.none) (Value.none) (Value.none) (Value.str (Str.ofString "cpy313.graphlib") 256) (Value.ref 163) (Value.none)) #[]),
  (nat_lit 165, Obj.mk (Value.type "tuple") (none) (Data.seq #[]) #[]),
  (nat_lit 167, Obj.mk (Value.type "tuple") (none) (Data.seq #[Value.str (Str.ofString "self") 409, Value.str (Str.ofString "n2i") 410, Value.str (Str.ofString "stack") 411, Value.str (Str.ofString "itstack") 412, Value.str (Str.ofString "seen") 413, Value.str (Str.ofString "node2stacki") 414, Value.str (Str.ofString "node") 415]) #[]),
  (nat_lit 168, Obj.mk (Value.type "tuple") (none) (Data.seq #[]) #[]),
  (nat_lit 170, Obj.mk (Value.type "code") (none) (Data.fields #[Value.str (Str.ofString "_find_cycle") 406, Value.str (Str.ofString "TopologicalSorter._find_cycle") 407, Value.str (Str.ofString "/claim/cut.py") 408, Value.int 114 0, Value.int 1 0, Value.int 0 0, Value.int 0 0, Value.int 3 0, Value.ref 165, Value.bool Bool.true, Value.int 181 0, Value.ref 166, Value.none, Value.ref 167, Value.ref 168, Value.ref 169, Value.int 416 0, Value.int 114 0, Value.str (Str.ofString "/claim/cut.py") 417]) #[]),
  (nat_lit 171, Obj.mk (Value.type "function") (none) (fnD (stB 10 8) (Str.ofString "TopologicalSorter._find_cycle") (Value.none) (Value.none) (Value.none) (Value.str (Str.ofString "cpy313.graphlib") 256) (Value.ref 170) (Value.none)) #[]),
  (nat_lit 172, Obj.mk (Value.type "tuple") (none) (Data.seq #[]) #[]),
  (nat_lit 174, Obj.mk (Value.type "tuple") (none) (Data.seq #[Value.str (Str.ofString "self") 422]) #[]),
  (nat_lit 175, Obj.mk (Value.type "tuple") (none) (Data.seq #[]) #[]),
  (nat_lit 177, Obj.mk (Value.type "code") (none) (Data.fields #[Value.str (Str.ofString "static_order") 419, Value.str (Str.ofString "TopologicalSorter.static_order") 420, Value.str (Str.ofString "/claim/cut.py") 421, Value.int 143 0, Value.int 1 0, Value.int 0 0, Value.int 0 0, Value.int 3 0, Value.ref 172, Value.bool Bool.true, Value.int 181 0, Value.ref 173, Value.none, Value.ref 174, Value.ref 175, Value.ref 176, Value.int 423 0, Value.int 143 0, Value.str (Str.ofString "/claim/cut.py") 424]) #[]),
  (nat_lit 178, Obj.mk (Value.type "function") (none) (fnD (stB 10 9) (Str.ofString "TopologicalSorter.static_order") (Value.none) (Value.none) (Value.none) (Value.str (Str.ofString "cpy313.graphlib") 256) (Value.ref 177) (Value.none)) #[]),
  (nat_lit 179, Obj.mk (Value.type "tuple") (none) (Data.seq #[Value.str (Str.ofString "_nfinished") 426, Value.str (Str.ofString "_node2info") 427, Value.str (Str.ofString "_npassedout") 428, Value.str (Str.ofString "_ready_nodes") 429]) #[]),
  (nat_lit 180, Obj.mk (Value.type "dict") (none) (Data.dict #[DictEntry.mk (PyData.keyHash P (Str.ofString "__module__")) (Value.str (Str.ofString "__module__") 326) (Value.str (Str.ofString "cpy313.graphlib") 256), DictEntry.mk (PyData.keyHash P (Str.ofString "__firstlineno__")) (Value.str (Str.ofString "__firstlineno__") 330) (Value.int 39 329), DictEntry.mk (PyData.keyHash P (Str.ofString "__init__")) (Value.str (Str.ofString "__init__") 340) (Value.ref 117), DictEntry.mk (PyData.keyHash P (Str.ofString "_get_nodeinfo")) (Value.str (Str.ofString "_get_nodeinfo") 349) (Value.ref 124), DictEntry.mk (PyData.keyHash P (Str.ofString "add")) (Value.str (Str.ofString "add") 361) (Value.ref 131), DictEntry.mk (PyData.keyHash P (Str.ofString "prepare")) (Value.str (Str.ofString "prepare") 367) (Value.ref 136), DictEntry.mk (PyData.keyHash P (Str.ofString "get_ready")) (Value.str (Str.ofString "get_ready") 377) (Value.ref 143), DictEntry.mk (PyData.keyHash P (Str.ofString "is_active")) (Value.str (Str.ofString "is_active") 384) (Value.ref 150), DictEntry.mk (PyData.keyHash P (Str.ofString "__bool__")) (Value.str (Str.ofString "__bool__") 391) (Value.ref 157), DictEntry.mk (PyData.keyHash P (Str.ofString "done")) (Value.str (Str.ofString "done") 405) (Value.ref 164), DictEntry.mk (PyData.keyHash P (Str.ofString "_find_cycle")) (Value.str (Str.ofString "_find_cycle") 418) (Value.ref 171), DictEntry.mk (PyData.keyHash P (Str.ofString "static_order")) (Value.str (Str.ofString "static_order") 425) (Value.ref 178), DictEntry.mk (PyData.keyHash P (Str.ofString "__static_attributes__")) (Value.str (Str.ofString "__static_attributes__") 430) (Value.ref 179), DictEntry.mk (PyData.keyHash P (Str.ofString "__dict__")) (Value.str (Str.ofString "__dict__") 432) (Value.ref 182), DictEntry.mk (PyData.keyHash P (Str.ofString "__weakref__")) (Value.str (Str.ofString "__weakref__") 434) (Value.ref 183), DictEntry.mk (PyData.keyHash P (Str.ofString "__doc__")) (Value.str (Str.ofString "__doc__") 435) Value.none] 4) #[]),
  (nat_lit 181, Obj.mk (Value.type "type") (none) (Data.cls (ClassData.mk (Str.ofString "TopologicalSorter") [Value.type "object"] [Value.ref 181, Value.type "object"] 180 (Str.ofString "TopologicalSorter") Bool.true [] [] Bool.false none Bool.false)) #[none, none, some (Value.str (Str.ofString "TopologicalSorter") 319), some (Value.str (Str.ofString "TopologicalSorter") 327), some (Value.builtin "object.__new__"), some (Value.bool Bool.true)]),
  (nat_lit 182, Obj.mk (Value.type "getset_descriptor") (none) (Data.fields #[Value.str (Str.ofString "__dict__") 431, Value.ref 181, Value.builtin "function.__dict__", Value.builtin "function.__dict__#set"]) #[]),
  (nat_lit 183, Obj.mk (Value.type "getset_descriptor") (none) (Data.fields #[Value.str (Str.ofString "__weakref__") 433, Value.ref 181, Value.builtin "ExceptionGroup.__weakref__", Value.none]) #[]),
  (nat_lit 186, Obj.mk (Value.type "tuple") (none) (Data.seq #[]) #[]),
  (nat_lit 189, Obj.mk (Value.type "code") (none) (Data.fields #[Value.str (Str.ofString "_law_lists") 440, Value.str (Str.ofString "_law_lists") 441, Value.str (Str.ofString "/claim/cut.py") 442, Value.int 146 0, Value.int 2 0, Value.int 0 0, Value.int 0 0, Value.int 3 0, Value.ref 186, Value.bool Bool.true, Value.int 181 0, Value.ref 187, Value.none, Value.none, Value.none, Value.ref 188, Value.int 443 0, Value.int 146 0, Value.str (Str.ofString "/claim/cut.py") 444]) #[]),
  (nat_lit 190, Obj.mk (Value.type "function") (none) (fnD (stA 12) (Str.ofString "_law_lists") (Value.none) (Value.none) (Value.none) (Value.str (Str.ofString "law_ij0208_01") 438) (Value.ref 189) (Value.none)) #[]),
  (nat_lit 191, Obj.mk (Value.type "tuple") (none) (Data.seq #[]) #[]),
  (nat_lit 194, Obj.mk (Value.type "code") (none) (Data.fields #[Value.str (Str.ofString "_law_ways") 446, Value.str (Str.ofString "_law_ways") 447, Value.str (Str.ofString "/claim/cut.py") 448, Value.int 153 0, Value.int 1 0, Value.int 0 0, Value.int 0 0, Value.int 3 0, Value.ref 191, Value.bool Bool.true, Value.int 181 0, Value.ref 192, Value.none, Value.none, Value.none, Value.ref 193, Value.int 449 0, Value.int 153 0, Value.str (Str.ofString "/claim/cut.py") 450]) #[]),
  (nat_lit 195, Obj.mk (Value.type "function") (none) (fnD (stA 13) (Str.ofString "_law_ways") (Value.none) (Value.none) (Value.none) (Value.str (Str.ofString "law_ij0208_01") 438) (Value.ref 194) (Value.none)) #[]),
  (nat_lit 196, Obj.mk (Value.type "tuple") (none) (Data.seq #[]) #[]),
  (nat_lit 198, Obj.mk (Value.type "tuple") (none) (Data.seq #[Value.str (Str.ofString "sorter") 455]) #[]),
  (nat_lit 199, Obj.mk (Value.type "tuple") (none) (Data.seq #[]) #[]),
  (nat_lit 201, Obj.mk (Value.type "code") (none) (Data.fields #[Value.str (Str.ofString "_law_ring") 452, Value.str (Str.ofString "_law_ring") 453, Value.str (Str.ofString "/claim/cut.py") 454, Value.int 158 0, Value.int 1 0, Value.int 0 0, Value.int 0 0, Value.int 3 0, Value.ref 196, Value.bool Bool.true, Value.int 181 0, Value.ref 197, Value.none, Value.ref 198, Value.ref 199, Value.ref 200, Value.int 456 0, Value.int 158 0, Value.str (Str.ofString "/claim/cut.py") 457]) #[]),
  (nat_lit 202, Obj.mk (Value.type "function") (none) (fnD (stA 14) (Str.ofString "_law_ring") (Value.none) (Value.none) (Value.none) (Value.str (Str.ofString "law_ij0208_01") 438) (Value.ref 201) (Value.none)) #[]),
  (nat_lit 203, Obj.mk (Value.type "tuple") (none) (Data.seq #[]) #[]),
  (nat_lit 206, Obj.mk (Value.type "code") (none) (Data.fields #[Value.str (Str.ofString "law") 459, Value.str (Str.ofString "law") 460, Value.str (Str.ofString "/claim/cut.py") 461, Value.int 164 0, Value.int 1 0, Value.int 0 0, Value.int 0 0, Value.int 3 0, Value.ref 203, Value.bool Bool.true, Value.int 181 0, Value.ref 204, Value.none, Value.none, Value.none, Value.ref 205, Value.int 462 0, Value.int 164 0, Value.str (Str.ofString "/claim/cut.py") 463]) #[]),
  (nat_lit 207, Obj.mk (Value.type "function") (none) (fnD (stA 15) (Str.ofString "law") (Value.none) (Value.none) (Value.none) (Value.str (Str.ofString "law_ij0208_01") 438) (Value.ref 206) (Value.none)) #[])]
section
theorem wellSaid : Challenge.rw_ij0208_01.wellSaid = true := by kernel_rfl
theorem topRun : LeftO (OpenRow.toRowW Challenge.rw_ij0208_01.row).prog hd.view_39 [Str.ofString "filterfalse", Str.ofString "_NodeInfo"] (fun s => xlAt hd.view_39 [] s && recOk (RowW.records (OpenRow.toRowW Challenge.rw_ij0208_01.row)) s)
    (Hook.obs (kHook hd.heap_39 [2,3,15,17,18,20,21,29,30,32,33,35,36,37,39,40,42,43,44,46,47,49,50,51,53,54,55,56,59,61,62,64,65,73,74,76,77,79,80,81,83,84,85,86,87,90,97,98,99,100,110,111,113,114,116,117,118,120,121,123,124,125,127,128,130,131,132,135,136,137,139,140,142,143,144,146,147,149,150,151,153,154,156,157,158,160,161,163,164,165,167,168,170,171,172,174,175,177,178,179,180,181,182,183,186,189,190,191,194,195,196,198,199,201,202,203,206,207] (fun _ => by kernel_rfl))) (Hook.val (kHook hd.heap_39 [2,3,15,17,18,20,21,29,30,32,33,35,36,37,39,40,42,43,44,46,47,49,50,51,53,54,55,56,59,61,62,64,65,73,74,76,77,79,80,81,83,84,85,86,87,90,97,98,99,100,110,111,113,114,116,117,118,120,121,123,124,125,127,128,130,131,132,135,136,137,139,140,142,143,144,146,147,149,150,151,153,154,156,157,158,160,161,163,164,165,167,168,170,171,172,174,175,177,178,179,180,181,182,183,186,189,190,191,194,195,196,198,199,201,202,203,206,207] (fun _ => by kernel_rfl))) 3172 := by
  intro w
  kernel_rfl

end
section
/-- what the top left, as far as it is asked -/
structure Bs (w : World) (top : Heap) : Prop where
  X : (hd.heap_39 w.params).In top
  T : ∃ mg mb, TopRead hd.view_39 (looseW hd.view_39 [Str.ofString "filterfalse", Str.ofString "_NodeInfo"]) mg mb top

noncomputable abbrev KF0 (w : World) : Frag := hd.heap_39 w.params

theorem cutQ {M : Model} {A : Around} {α : Type} {t : Sem α} {E : Value → Shared → Prop} {s : Shared} {Q : α → Shared → Prop} (h : ∀ Q' : α → Shared → Prop, (∀ v s', Q v s' → Q' v s') → wpAny M A t Q' E s) : wpAny M A t Q E s := h Q fun _ _ x => x
theorem dD {A : Around} {env : Env} {a b : Nat} (h : A.depth < a) (hk : a + 1 ≤ b) : (A.deeper env).depth < b := Nat.lt_of_lt_of_le (Nat.succ_lt_succ h) hk
theorem uD {A : Around} {env : Env} {a b : Nat} (h : A.units < a) (hk : a + 3 ≤ b) : (A.deeper env).units < b := Nat.lt_of_lt_of_le (Nat.add_lt_add_right h 3) hk
theorem Bs.keeps {w : World} {h h' : Heap} (B : Bs w h) (k : h.StaysIn h') : Bs w h' := by
  obtain ⟨X, mg, mb, T⟩ := B
  exact ⟨fun a o e => k _ _ (X a o e), mg, mb, T.keeps k⟩
theorem Bs.nolimit {w : World} {h : Heap} (B : Bs w h) : h.NoLimit := by
  obtain ⟨X, mg, mb, T⟩ := B
  exact T.nolimit

section
variable {w : World} {A : Around} {E : Value → Shared → Prop} {s : Shared} {g : Heap} {L a : Addr} {m : Str → Option Value} {cn : Str} {cs : Scope} {ccd : Value} {M : Model}

theorem gname {x : Str} {pos : Pos} {v : Value} {Q : Value → Shared → Prop} (F : Fr g L s.heap m) (B : Bs w g) (e : nsIn (hd.heap_39 w.params) mainGlobals x = some (some v)) (h : Q v s)
    (hk : cs.kind = .function := by rfl) (hx : (envOf cn cs L a ccd).kindOf x = some .globalImplicit := by rfl) (hd : (x == ("__debug__" : Str)) = false := by decide) :
    wpAny M A (eval (.Name x pos) (envOf cn cs L a ccd)) Q E s := by
  obtain ⟨X, mg, mb, T⟩ := B
  exact name_K F X T e h hk hx hd
theorem bname {x : Str} {pos : Pos} {v : Value} {Q : Value → Shared → Prop} (F : Fr g L s.heap m) (B : Bs w g) (e : nsIn (hd.heap_39 w.params) mainGlobals x = some none) (hv : bootBuiltins x = some v) (hn : x ≠ "__name__") (h : Q v s)
    (hk : cs.kind = .function := by rfl) (hx : (envOf cn cs L a ccd).kindOf x = some .globalImplicit := by rfl) (hd : (x == ("__debug__" : Str)) = false := by decide) :
    wpAny M A (eval (.Name x pos) (envOf cn cs L a ccd)) Q E s := by
  obtain ⟨X, mg, mb, T⟩ := B
  exact name_B F X T e hv hn h hk hx hd
end

section
variable {w : World} {A : Around} {s : Shared} {W : List (Addr × Obj)} {R : Result → Shared → Prop} {name qual : Str} {params : Arguments} {body : List Stmt} {scope : Scope} {dV kV doc pm cdv ct oc : Value} {an od : Option Addr} {osl : Array (Option Value)} {f : Addr} {args : Args} {binds : List (Str × Value)}

/-- a call of a def: W the objects that it may change -/
theorem enter (W : List (Addr × Obj))
    (ho : (hd.heap_39 w.params).lookup f = some ⟨oc, od, .func (fnOf name qual params body scope dV kV doc pm an cdv ct), osl⟩)
    (B : Bs w (hideAll s.heap (W.map (·.1)))) (N : ∀ p ∈ W, s.heap.get? p.1 = some p.2)
    (hcd : codeIn (hd.heap_39 w.params) cdv qual = true) (hroom : A.depth < recursionLimit)
    (hbind : BindsTo s (fnOf name qual params body scope dV kV doc pm an cdv ct) args binds) (hloc : ∀ y ∈ binds, scope.names.lookup y.1 = some .local)
    (h : ∀ L h₁, Fr (hideAll s.heap (W.map (·.1))) L h₁ (fun y => binds.reverse.lookup y) → News (hideAll s.heap (W.map (·.1))) L h₁ W → (∀ p ∈ W, p.1 < L) →
      wpAny (model Challenge.pw_ij0208_01 w) (A.deeper (envOf qual scope L f cdv)) (execs body (envOf qual scope L f cdv))
        (fun fl s' => R (.ok (.ret (match fl with | .ret v => v | _ => .none))) s')
        (fun e s' => wpAny (model Challenge.pw_ij0208_01 w) (A.deeper (envOf qual scope L f cdv)) (leaving (envOf qual scope L f cdv) e) (fun _ s'' => R (.error e) s'') (fun e' s'' => R (.error e') s'') s')
        { s with heap := h₁, toks := s.toks + binds.length })
    (hco : scope.isCoroutine = false := by rfl) (hgen : scope.isGenerator = false := by rfl) (hk : scope.kind = .function := by rfl)
    (hcell : ∀ x ∈ scope.names, x.2 ≠ .cell := by decide) : codeAny (model Challenge.pw_ij0208_01 w) A (.call (.ref f) args) R s := by
  have st : (hideAll s.heap (W.map (·.1))).StaysIn s.heap := fun b o e => of_hideAll _ e
  have B' := B.keeps st
  refine codeAny_call_def (fd := fnOf name qual params body scope dV kV doc pm an cdv ct) (body := body) (binds := binds) hroom (B'.X _ _ ho) rfl B'.nolimit (codeRec_of B'.X hcd) rfl hbind hcell hloc (fun h₁ hns hk₁ => ?_) hco hgen hk
  exact h _ h₁ ⟨hns, fun b o e => hk₁ b o (of_hideAll _ e), Nat.le_of_eq (hideAll_size _ _)⟩ (fun p hp => ⟨hk₁ _ _ (N p hp), Nat.ne_of_lt (Heap.lt_size (N p hp)), hideAll_none _ (List.mem_map_of_mem hp)⟩) fun p hp => Heap.lt_size (N p hp)
end
section
variable {w : World} {A : Around} {E : Value → Shared → Prop} {s : Shared} {g : Heap} {L a x dx : Addr} {m : Str → Option Value} {es : List DictEntry} {n : Nat}

theorem ga181 {name : Str} {v : Value} {expr : Bool} {Q : Value → Shared → Prop} (F : Fr g L s.heap m) (B : Bs w g) (I : InstAt s.heap x ⟨.ref 181, some dx, .plain, #[]⟩ 181 (some (dictOf es n)))
    (h1 : plainGet (hd.heap_39 w.params) 181 name = true) (h2 : findIn (hd.heap_39 w.params) (.ref 181) name = some none) (hl : getL name es = some (some v)) (hv : handedIn v = true) (h : Q v { s with toks := s.toks + 1 }) :
    wpAny (model Challenge.pw_ij0208_01 w) A (getAttr (.ref x) name expr) Q E s :=
  get_own F B.X I h1 (by kernel_rfl) h2 (by kernel_rfl) hl hv h
end

abbrev sobj (dx : Addr) : Obj := ⟨.ref 181, some dx, .plain, #[]⟩
structure SD where
  (h0 h1 h2 h3 : Int) (k0 k1 k2 k3 t2 t3 : Nat)
abbrev sdict (d : SD) (D : Value) (R : Value) (np nf : Int) : Obj := dictOf [⟨d.h0, .str "_node2info" d.k0, D⟩, ⟨d.h1, .str "_ready_nodes" d.k1, R⟩, ⟨d.h2, .str "_npassedout" d.k2, .int np d.t2⟩, ⟨d.h3, .str "_nfinished" d.k3, .int nf d.t3⟩] 4

section
variable {w : World} {A : Around} {s : Shared} {R : Result → Shared → Prop} {name qual : Str} {params : Arguments} {body : List Stmt} {scope : Scope} {dV kV doc pm cdv ct oc : Value} {an od : Option Addr} {osl : Array (Option Value)} {f : Addr} {args : Args} {binds : List (Str × Value)}
/-- a call of a def that changes nothing of what stands -/
theorem enter0
    (ho : (hd.heap_39 w.params).lookup f = some ⟨oc, od, .func (fnOf name qual params body scope dV kV doc pm an cdv ct), osl⟩)
    (B : Bs w s.heap) (hcd : codeIn (hd.heap_39 w.params) cdv qual = true) (hroom : A.depth < recursionLimit)
    (hbind : BindsTo s (fnOf name qual params body scope dV kV doc pm an cdv ct) args binds) (hloc : ∀ y ∈ binds, scope.names.lookup y.1 = some .local)
    (h : ∀ L h₁, Fr s.heap L h₁ (fun y => binds.reverse.lookup y) → News s.heap L h₁ [] →
      wpAny (model Challenge.pw_ij0208_01 w) (A.deeper (envOf qual scope L f cdv)) (execs body (envOf qual scope L f cdv))
        (fun fl s' => R (.ok (.ret (match fl with | .ret v => v | _ => .none))) s')
        (fun e s' => wpAny (model Challenge.pw_ij0208_01 w) (A.deeper (envOf qual scope L f cdv)) (leaving (envOf qual scope L f cdv) e) (fun _ s'' => R (.error e) s'') (fun e' s'' => R (.error e') s'') s')
        { s with heap := h₁, toks := s.toks + binds.length })
    (hco : scope.isCoroutine = false := by rfl) (hgen : scope.isGenerator = false := by rfl) (hk : scope.kind = .function := by rfl)
    (hcell : ∀ x ∈ scope.names, x.2 ≠ .cell := by decide) : codeAny (model Challenge.pw_ij0208_01 w) A (.call (.ref f) args) R s :=
  enter [] ho B (fun _ h => nomatch h) hcd hroom hbind hloc (fun L h₁ F N _ => h L h₁ F N) hco hgen hk hcell
end

theorem InstAt.mk1 {h : Heap} {x dx C : Addr} {sl : Array (Option Value)} {od : Obj} (hx : h.get? x = some ⟨.ref C, some dx, .plain, sl⟩) (hd : h.get? dx = some od) : InstAt h x ⟨.ref C, some dx, .plain, sl⟩ C (some od) := ⟨hx, rfl, rfl, hd⟩
theorem isListH {h : Heap} {l : Addr} {items : Array Value} {n : Nat} (e : h.get? l = some (listOf items n)) : h.IsList l items := ⟨_, e, rfl, n, rfl⟩

section
variable {prog : Program} {w : World} {A : Around} {E : Value → Shared → Prop} {s : Shared}
theorem call_bool_list {l : Addr} {items : Array Value} {Q : Value → Shared → Prop} (hl : s.heap.IsList l items) (hfit : (items.size : Int) < 2 ^ 63)
    (h : Q (.bool (!items.isEmpty)) { s with toks := s.toks + 1 + 1 }) : wpAny (model prog w) A (call (.type "bool") [.ref l]) Q E s := by
  refine call_bool_1 (S := fun A R s => s.heap.IsList l items ∧ R (.ok (.ret (.bool (!items.isEmpty)))) { s with toks := s.toks + 1 + 1 }) (Meets.of_wp fun prog w A R s hs => ?_) ⟨hl, ⟨rfl, h⟩⟩
  obtain ⟨hl, hs⟩ := hs
  obtain ⟨hp, g, d, tk, os⟩ := s
  have f1 := F.conv_sub_bool
  repeat (any_goals (first | assumption | with_reducible refine wpAny_truthy_list hl hfit ?_ | wp_step))
  exact ⟨_, rfl, hs⟩
end
theorem gnUNODEUOUT (w : World) : nsIn (hd.heap_39 w.params) mainGlobals (Str.ofString "_NODE_OUT") = some (some (.int (-1) 259)) := by kernel_rfl
theorem gnUNODEUDONE (w : World) : nsIn (hd.heap_39 w.params) mainGlobals (Str.ofString "_NODE_DONE") = some (some (.int (-2) 262)) := by kernel_rfl
theorem gnUNodeInfo (w : World) : nsIn (hd.heap_39 w.params) mainGlobals (Str.ofString "_NodeInfo") = some (some (.ref 84)) := by kernel_rfl
theorem gnCycleError (w : World) : nsIn (hd.heap_39 w.params) mainGlobals (Str.ofString "CycleError") = some (some (.ref 99)) := by kernel_rfl
theorem gnfilterfalse (w : World) : nsIn (hd.heap_39 w.params) mainGlobals (Str.ofString "filterfalse") = some (some (.ref 54)) := by kernel_rfl
theorem gnUfilter (w : World) : nsIn (hd.heap_39 w.params) mainGlobals (Str.ofString "_filter") = some (some (.ref 65)) := by kernel_rfl
theorem gnTopologicalSorter (w : World) : nsIn (hd.heap_39 w.params) mainGlobals (Str.ofString "TopologicalSorter") = some (some (.ref 181)) := by kernel_rfl
theorem gnUlawUlists (w : World) : nsIn (hd.heap_39 w.params) mainGlobals (Str.ofString "_law_lists") = some (some (.ref 190)) := by kernel_rfl
theorem gnUlawUways (w : World) : nsIn (hd.heap_39 w.params) mainGlobals (Str.ofString "_law_ways") = some (some (.ref 195)) := by kernel_rfl
theorem gnUlawUring (w : World) : nsIn (hd.heap_39 w.params) mainGlobals (Str.ofString "_law_ring") = some (some (.ref 202)) := by kernel_rfl
/-- a halt of the walk -/
def Halt (P : Prop) : Prop := P
theorem Halt.go {P : Prop} (h : Halt P) : P := h

end
section
/-- the outer frames' objects, in the order of the stack -/
def FrOf : List Env → List (Addr × Obj) → Prop
  | [], [] => True
  | env :: r, p :: t => env.scope.kind ≠ .module ∧ env.frame = some p.1 ∧ (∀ vs, p.2.data ≠ .fields vs) ∧ FrOf r t
  | _, _ => False
def SlotEq : List (Addr × Obj) → List (Addr × Obj) → Prop
  | [], [] => True
  | p :: r, q :: t => (q.1 = p.1 ∧ ∃ sl, q.2 = { p.2 with slots := sl }) ∧ SlotEq r t
  | _, _ => False
theorem SlotEq.refl : ∀ l, SlotEq l l
  | [] => trivial
  | p :: r => ⟨⟨rfl, p.2.slots, rfl⟩, SlotEq.refl r⟩
theorem SlotEq.trans : ∀ {a b c}, SlotEq a b → SlotEq b c → SlotEq a c
  | [], [], [], _, _ => trivial
  | p :: _, q :: _, r :: _, ⟨⟨e1, sl, e2⟩, h⟩, ⟨⟨e3, sl', e4⟩, h'⟩ => ⟨⟨e3.trans e1, sl', by rw [e4, e2]⟩, SlotEq.trans h h'⟩
  | [], [], _ :: _, _, h => h.elim
  | [], _ :: _, _, h, _ => h.elim
  | _ :: _, [], _, h, _ => h.elim
  | _ :: _, _ :: _, [], _, h => h.elim
theorem SlotEq.adr : ∀ {a b}, SlotEq a b → b.map (·.1) = a.map (·.1)
  | [], [], _ => rfl
  | p :: _, q :: _, ⟨⟨e1, _⟩, h⟩ => by simp only [List.map_cons, e1, SlotEq.adr h]
  | [], _ :: _, h => h.elim
  | _ :: _, [], h => h.elim
theorem FrOf.slots : ∀ {l a b}, FrOf l a → SlotEq a b → FrOf l b
  | [], [], [], _, _ => trivial
  | env :: r, p :: t, q :: u, ⟨h1, h2, h3, h4⟩, ⟨⟨e1, sl, e2⟩, h⟩ => ⟨h1, by rw [e1]; exact h2, by rw [e2]; exact h3, FrOf.slots h4 h⟩
  | [], [], _ :: _, _, h => h.elim
  | _ :: _, [], _, h, _ => h.elim
  | [], _ :: _, _, h, _ => h.elim
  | _ :: _, _ :: _, [], _, h => h.elim
/-- what an exception's leaving may do to what stood -/
structure Noise (fs : List Addr) (h h' : Heap) : Prop where
  keep : ∀ b, b ∉ fs → ∀ o, h.get? b = some o → h'.get? b = some o
  fr : ∀ b o, h.get? b = some o → (∀ vs, o.data ≠ .fields vs) → ∃ sl, h'.get? b = some { o with slots := sl }
theorem Noise.trans {fs : List Addr} {h₁ h₂ h₃ : Heap} (a : Noise fs h₁ h₂) (b : Noise fs h₂ h₃) : Noise fs h₁ h₃ :=
  ⟨fun x hx o e => b.keep x hx o (a.keep x hx o e), fun x o e hn => by
    obtain ⟨sl, e'⟩ := a.fr x o e hn
    obtain ⟨sl', e''⟩ := b.fr x _ e' hn
    exact ⟨sl', e''⟩⟩
theorem Noise.slotEq {fs : List Addr} {h h' : Heap} (z : Noise fs h h') : ∀ {l FS}, FrOf l FS → (∀ p ∈ FS, h.get? p.1 = some p.2) → ∃ FS', SlotEq FS FS' ∧ ∀ p ∈ FS', h'.get? p.1 = some p.2
  | [], [], _, _ => ⟨[], trivial, fun _ h => nomatch h⟩
  | env :: r, p :: t, ⟨_, _, h3, h4⟩, hin => by
    obtain ⟨sl, e⟩ := z.fr p.1 p.2 (hin p (.head _)) h3
    obtain ⟨t', h5, h6⟩ := Noise.slotEq z h4 fun q hq => hin q (.tail _ hq)
    refine ⟨(p.1, { p.2 with slots := sl }) :: t', ⟨⟨rfl, sl, rfl⟩, h5⟩, fun q hq => ?_⟩
    rcases List.mem_cons.mp hq with rfl | hq
    · exact e
    · exact h6 q hq
  | [], _ :: _, h, _ => h.elim
  | _ :: _, [], h, _ => h.elim
theorem FrOf.fun {h base : Heap} : ∀ {l FS}, FrOf l FS → (∀ p ∈ FS, h.get? p.1 = some p.2) → (∀ p ∈ FS, base.get? p.1 = none) → h.FunFrames base l
  | [], [], _, _, _ => trivial
  | env :: r, p :: t, ⟨h1, h2, h3, h4⟩, hin, hn => ⟨h1, ⟨p.1, p.2, h2, hn p (.head _), hin p (.head _), h3⟩, FrOf.fun h4 (fun q hq => hin q (.tail _ hq)) fun q hq => hn q (.tail _ hq)⟩
  | [], _ :: _, h, _, _ => h.elim
  | _ :: _, [], h, _, _ => h.elim
section
variable {M : Model} {A : Around} {E : Value → Shared → Prop} {s' : Shared} {h : Heap} {outer : List Env} {L a e : Addr} {oL : Obj} {name : Str} {scope : Scope} {cd : Value} {Q : Unit → Shared → Prop} {FS : List (Addr × Obj)}
theorem leaveEv {cls : String} (hA : A.frames = some outer) (hx : Heap.NewExc h s'.heap e cls) (hL : h.get? L = some oL) (hLd : ∀ vs, oL.data ≠ .fields vs) (hF : FrOf outer FS) (hin : ∀ p ∈ FS, h.get? p.1 = some p.2)
    (hQ : ∀ h', Noise (L :: FS.map (·.1)) h h' → (∃ oe, h'.get? e = some oe ∧ oe.cls = .type cls) → Q () { s' with heap := h' }) (hk : scope.kind = .function := by rfl) :
    wpAny M (A.deeper (envOf name scope L a cd)) (leaving (envOf name scope L a cd) (.ref e)) Q E s' := by
  obtain ⟨ob, tp, he, hcls, hd⟩ := hx.there
  have hn : ∀ b ∈ L :: FS.map (·.1), (hideAll h (L :: FS.map (·.1))).get? b = none := fun b hb => hideAll_none _ hb
  have hFS : FrOf (envOf name scope L a cd :: outer) ((L, oL) :: FS) := ⟨by show scope.kind ≠ .module; rw [hk]; decide, rfl, hLd, hF⟩
  have hin' : ∀ p ∈ (L, oL) :: FS, s'.heap.get? p.1 = some p.2 := fun p hp => by
    rcases List.mem_cons.mp hp with rfl | hp
    · exact hx.keeps _ _ hL
    · exact hx.keeps _ _ (hin p hp)
  have hen : (hideAll h (L :: FS.map (·.1))).get? e = none := by
    cases q : (hideAll h (L :: FS.map (·.1))).get? e with
    | none => rfl
    | some o => have := of_hideAll _ q; rw [hx.new] at this; cases this
  refine wpAny_leaving_firstW (base := hideAll h (L :: FS.map (·.1))) (Around.frames_deeper hA) (FrOf.fun hFS hin' fun p hp => hn _ (List.mem_map_of_mem (f := (·.1)) hp)) rfl he (fun b o hb => hx.keeps b o (of_hideAll _ hb)) hen hd rfl rfl fun h' hLw => ?_
  obtain ⟨k1, _, k3, k4⟩ := hLw
  refine hQ h' ⟨fun b hb o e' => k1 _ _ (hideAll_get _ e' hb), fun b o e' hnf => k4 b o (hx.keeps _ _ e') hnf⟩ ?_
  obtain ⟨oe, _, _, _, _, h1, ⟨h2, _⟩, _⟩ := k3
  exact ⟨oe, h1, h2.trans hcls⟩
end

end
section
def TurnW (I : Nat → Shared → Prop) (n : Nat) (Q : Flow → Shared → Prop) (f : Flow) (s : Shared) : Prop :=
  match f with
  | .ret v => Q (.ret v) s
  | .brk => Q .next s
  | _ => ∃ m, m < n ∧ I m s
section
variable {prog : Program} {w : World} {A : Around} {E : Value → Shared → Prop} {env : Env} {test : PySem.Expr} {body orelse : List Stmt} {Q : Flow → Shared → Prop}
theorem whileW (I : Nat → Shared → Prop) (hE : PassesOwn (model prog w) A env E)
    (turn : ∀ n s, I n s → wpAny (model prog w) A (isTrue test env (eval test env)) (fun b s₂ => WhlIf b (wpAny (model prog w) A (execs body env) (TurnW I n Q) E s₂) (wpAny (model prog w) A (execs orelse env) Q E s₂)) E s)
    {pos : Pos} (n : Nat) {s : Shared} (h : I n s) : wpAny (model prog w) A (exec (.While test body orelse pos) env) Q E s := by
  refine whl_start 0 ?_
  induction n using Nat.strongRecOn generalizing s with
  | ind n ih =>
    refine whl_turn (k := 0) hE (wpAny_mono (turn n s h) (fun b s₂ z => ?_) fun _ _ z => z)
    cases b with
    | false => exact z
    | true =>
      refine WhlIf.yes rfl ?_
      have z' : wpAny (model prog w) A (execs body env) (TurnW I n Q) E s₂ := z
      refine wpAny_mono z' (fun f s₃ y => ?_) fun _ _ y => y
      cases f with
      | ret v => exact y
      | brk => exact y
      | next => obtain ⟨m, hm, hI⟩ := y; exact ih m hm hI
      | cont => obtain ⟨m, hm, hI⟩ := y; exact ih m hm hI
end

end
section
abbrev wrapObj (id : String) (a : Addr) : Obj := { cls := .type "method-wrapper", data := .fields #[.builtin id, .ref a] }
theorem slot_wget : Slot "wrapper_descriptor" "__get__" "wrapper_descriptor.__get__" :=
  .of (owner := "wrapper_descriptor") (n := "__get__") (by rw [typeLookup_type, builtinLookup_eq_fast]; kernel_rfl) (by decide +kernel) (by decide +kernel) (by decide +kernel)
    (by first | exact .inl (by decide +kernel) | exact .inr (by decide +kernel)) (by rw [isSubtype_type]; kernel_rfl)
theorem entry_wget : entryFor table "wrapper_descriptor.__get__" = some Builtin.«wrapper_descriptor.__get__» := entryFor_of_tree (by kernel_rfl)
theorem args_wget (a b c : Value) : argsOk "wrapper_descriptor.__get__" ⟨[a, b, c], []⟩ := by unfold argsOk; kernel_rfl
theorem sub_list_list : isSubtype (.type "list") (.type "list") = pure true := by rw [isSubtype_type]; kernel_rfl
theorem type_lc : typeOf (.builtin "list.__contains__") = pure (.type "wrapper_descriptor") := by show builtinType _ = _; rw [builtinType_eq_fast]; kernel_rfl
section
variable {M : Model} {A : Around} {E : Value → Shared → Prop} {s : Shared}
theorem run_wget {P : Fin → Shared → Prop} {a : Addr} {xs : Array Value} {k : Nat} (hx : s.heap.get? a = some (listOf xs k)) (h : P (.done (.ret (.ref s.heap.objs.size))) { s with heap := s.heap.push (wrapObj "list.__contains__" a) }) :
    wpAny M A (Builtin.«wrapper_descriptor.__get__» ⟨[.builtin "list.__contains__", .ref a, .type "list"], []⟩) P E s := by
  have hT : s.TypeIs (.ref a) "list" := ⟨_, hx, rfl⟩
  unfold Builtin.«wrapper_descriptor.__get__»
  refine wpAny_bind (wpAny_of_eq (a := (.builtin "list.__contains__", some (.ref a), some (.type "list"))) (by first | rfl | kernel_rfl) ?_)
  with_unfolding_all refine wpAny_bind ?_
  with_unfolding_all refine wpAny_bind (wpAny_of_eq (a := (Str.ofString "__contains__", .type "list")) (by first | rfl | kernel_rfl) ?_)
  dsimp only
  refine wpAny_bind (wpAny_isInstance hT sub_list_list ?_)
  refine wpAny_pure ?_
  exact wpAny_bind (wpAny_newObj_type (wpAny_pure h))
end
theorem lt_contains : typeLookup (.type "list") (Str.ofString "__contains__") = pure (some (.builtin "list.__contains__")) := by rw [typeLookup_type, builtinLookup_eq_fast]; kernel_rfl
theorem bk_contains : builtinKind "list.__contains__" = some .slot := by decide +kernel
theorem lt_wget : typeLookup (.type "wrapper_descriptor") (Str.ofString "__get__") = pure (some (.builtin "wrapper_descriptor.__get__")) := by rw [typeLookup_type, builtinLookup_eq_fast]; kernel_rfl
theorem lt_wset : typeLookup (.type "wrapper_descriptor") (Str.ofString "__set__") = pure none := by rw [typeLookup_type, builtinLookup_eq_fast]; kernel_rfl
theorem lt_wdel : typeLookup (.type "wrapper_descriptor") (Str.ofString "__delete__") = pure none := by rw [typeLookup_type, builtinLookup_eq_fast]; kernel_rfl
theorem ga_contains (a : Addr) (xs : Array Value) (k : Nat) (u : Tok) :
    Meets (Builtin.«object.__getattribute__» ⟨[.ref a, .str (Str.ofString "__contains__") u], []⟩) (fun A R s => s.heap.get? a = some (listOf xs k) ∧ R (.ok (.ret (.ref s.heap.objs.size))) { s with heap := s.heap.push (wrapObj "list.__contains__" a) }) :=
  Meets.of_wp fun prog w A R s hs => by
    obtain ⟨hp, g, d, tk, os⟩ := s
    obtain ⟨hx, hs⟩ := hs
    have hT : (⟨hp, g, d, tk, os⟩ : Shared).TypeIs (.ref a) "list" := ⟨_, hx, rfl⟩
    have f1 := lt_contains
    have f2 := lt_wget
    have f3 := lt_wset
    have f4 := lt_wdel
    unfold Builtin.«object.__getattribute__»
    repeat (any_goals (first | assumption | (simp only [bk_contains]) | ((with_reducible show wpAny _ _ (call (.builtin "wrapper_descriptor.__get__") _ _) _ _ _); refine wpAny_call_entry slot_wget (type_of_val type_lc) entry_wget (run_wget hx ⟨_, rfl, ?_⟩) (args_wget _ _ _)) | wp_step))
    refine codeAny_call_builtin slot_wget.plain entry_wget (slot_wget.check _ _ _ _ _ _ _ _ type_lc (args_wget _ _ _) (run_wget hx ?_))
    exact wpAny_pure ⟨_, rfl, hs⟩

end
section
theorem getAttr_contains {prog : Program} {w : World} {A : Around} {E : Value → Shared → Prop} {s : Shared} {a : Addr} {xs : Array Value} {k : Nat} {Q : Value → Shared → Prop} {ex : Bool}
    (hx : s.heap.get? a = some (listOf xs k))
    (h : Q (.ref s.heap.objs.size) { s with heap := s.heap.push (wrapObj "list.__contains__" a), toks := s.toks + 1 }) :
    wpAny (model prog w) A (getAttr (.ref a) (Str.ofString "__contains__") ex) Q E s := by
  obtain ⟨hp, g, d, tk, os⟩ := s
  have hT : ∀ tk', (⟨hp, g, d, tk', os⟩ : Shared).TypeIs (.ref a) "list" := fun _ => ⟨_, hx, rfl⟩
  have f3 := F.slot_list_getattribute.lookup
  have f4 := F.slot_list_getattribute.bind (.ref a)
  have f5 := am_list_getattr_none
  unfold getAttr getAttrBy
  repeat (any_goals (first | assumption | exact hT _ | ((with_reducible show wpAny _ _ (call (Value.builtin "list.__getattribute__") _ _) _ _ _); refine call_meets F.slot_list_getattribute (hT _) am_entry_list_getattribute (F.args_list_getattribute_2 _ _) (ga_contains a xs k _) ⟨hx, ?_⟩) | wp_step))
  rw [if_neg (by cases ex <;> decide)]
  repeat (any_goals (first | assumption | exact hT _ | ((with_reducible show wpAny _ _ (call (Value.builtin "list.__getattribute__") _ _) _ _ _); refine call_meets F.slot_list_getattribute (hT _) am_entry_list_getattribute (F.args_list_getattribute_2 _ _) (ga_contains a xs k _) ⟨hx, ?_⟩) | wp_step))
  show wpAny (model prog w) A (handedOut _) Q E _
  unfold handedOut
  repeat (any_goals (first | assumption | wp_step))

def HasAt (u : Addr) (o : Obj) (h : Heap) : Prop := h.get? u = some o
section
variable {prog : Program} {w : World} {M : Model} {A : Around} {E : Value → Shared → Prop} {s : Shared}
theorem cwFields {pos : Pos} {u : Addr} {id : String} {a : Addr} {first : List Value} {args : List (Bool × Sem Value)} {Q : Value → Shared → Prop} (hplain : args.any (·.1) = false)
    (h : wpAny M A (evalArgs (.ref u) true args []) (fun x s₁ => HasAt u (wrapObj id a) s₁.heap ∧ wpAny M A (call (.ref u) (first ++ x.pos) x.kw) Q E s₁) E s) : wpAny M A (callWith pos (.ref u) first args []) Q E s := by
  unfold callWith
  refine wpAny_bind (wpAny_holding (wpAny_mono h (fun x s₁ h₁ => wpAny_bind (wpAny_standAt ?_)) fun _ _ x => x))
  obtain ⟨ho, hcall⟩ := h₁
  simp only [hplain, List.any_nil, Bool.or_false]
  refine wpAny_bind (m := keeperOf (.ref u)) ?_
  unfold keeperOf
  refine wpAny_bind (wpAny_load ho ?_)
  simp only [wrapObj, show (Value.type "method-wrapper" != Value.type "method") = true by decide, show (Value.type "method-wrapper" == Value.type "builtin_function_or_method" || Value.type "method-wrapper" == Value.type "method-wrapper") = true by decide, if_true]
  refine wpAny_pure ?_
  exact wpAny_bind (wpAny_mono hcall (fun r s₂ hr => wpAny_bind (wpAny_holding (wpAny_point (wpAny_pure hr)))) fun _ _ x => x)
theorem cwWrap {pos : Pos} {u : Addr} {id : String} {a : Addr} {first : List Value} {env : Env} {e : Expr} {rest : List Expr} {Q : Value → Shared → Prop} (ho : s.heap.get? u = some (wrapObj id a))
    (h : wpAny M A (spliced (backTo pos (starEach (e :: rest) env))) (fun vs s₁ => HasAt u (wrapObj id a) s₁.heap ∧ wpAny M A (call (.ref u) (first ++ vs)) Q E s₁) E s)
    (he : starEach (e :: rest) env = (false, eval e env) :: starEach rest env := by rfl) (hplain : (backTo pos (starEach rest env)).any (·.1) = false := by rfl) :
    wpAny M A (callWith pos (.ref u) first (backTo pos (starEach (e :: rest) env)) []) Q E s := by
  rw [he] at h ⊢
  refine cwFields (id := id) (a := a) (by show (false || (backTo pos (starEach rest env)).any (·.1)) = false; rw [hplain]; rfl) ?_
  exact evalArgs_plain h
theorem cwWrap0 {pos : Pos} {u : Addr} {id : String} {a : Addr} {env : Env} {Q : Value → Shared → Prop} (ho : s.heap.get? u = some (wrapObj id a))
    (h : wpAny M A (call (.ref u) []) Q E s) :
    wpAny M A (callWith pos (.ref u) [] (backTo pos (starEach [] env)) []) Q E s := by
  exact cwFields (id := id) (a := a) rfl (PyProof.Rows.evalArgs_none ⟨ho, h⟩)
theorem check_lc {l : Addr} {x : Value} : checkBoundCall "list.__contains__" ⟨[.ref l, x], []⟩ = pure () := by first | kernel_rfl | rfl
theorem quiet_lc {as : Args} : (Code.builtin "list.__contains__" as).quiet = true := Code.quiet_builtin _ (by decide +kernel)
theorem call_contains {u l : Addr} {items : Array Value} {n : Nat} {x : Value} {e : Value → Bool} {Q : Value → Shared → Prop} (ho : s.heap.get? u = some (wrapObj "list.__contains__" l)) (hl : s.heap.get? l = some (listOf items n))
    (he : ∀ y, y ∈ items → MeetsSeq.EqGives y x (e y)) (h : Q (.bool (items.any e)) s) : wpAny (model prog w) A (call (.ref u) [x]) Q E s := by
  refine wpAny_call (codeAny_of_tree ?_)
  show wpAny _ A.in1 (callAny (.ref u) ⟨[x], []⟩) _ _ s
  simp only [callAny]
  refine wpAny_bind (wpAny_load ho ?_)
  simp only [wrapObj, show (Value.type "method-wrapper" == Value.type "method" || Value.type "method-wrapper" == Value.type "builtin_function_or_method" || Value.type "method-wrapper" == Value.type "method-wrapper") = true by decide]
  rw [if_pos trivial]
  refine KFB.if_so (by decide) ?_
  refine wpAny_bind (wpAny_of_eq (a := ()) check_lc ?_)
  refine wpAny_bind (wpAny_pure (wpAny_pure ?_))
  exact ⟨quiet_lc, codeAny_builtin PySem.F.entry_list_contains (MeetsSeq.list_contains l items n x e he _ _ _ _ _ ⟨hl, h⟩)⟩
end

end
section
abbrev liObj (l : Addr) (i : Nat) : Obj := { cls := .type "list_iterator", data := .fields #[.ref l, .int i 0] }
abbrev liDone (i : Nat) : Obj := { cls := .type "list_iterator", data := .fields #[.none, .int i 0] }
section
variable {prog : Program} {w : World} {A : Around} {E : Value → Shared → Prop} {s : Shared} {g : Heap} {L it l : Addr} {m : Str → Option Value} {items : Array Value} {n i : Nat} {x : Value}
theorem li_item {Q : Value → Shared → Prop} (ho : s.heap.get? it = some (liObj l i)) (hl : s.heap.get? l = some (listOf items n)) (hx : items[i]? = some x)
    (hQ : ∀ h', h'.get? it = some (liObj l (i + 1)) → Heap.SameBut it s.heap h' → Q x { s with heap := h' }) :
    wpAny (model prog w) A (Builtin.«list_iterator.__next__» ⟨[.ref it], []⟩) (fun fin s' => ∃ v, fin = .done (.ret v) ∧ Q v s') E s := by
  show wpAny _ _ (field (.ref it) 0 >>= _) _ _ s
  refine wpAny_bind (wpAny_field ho rfl (x := .ref l) rfl ?_)
  show wpAny _ _ (if (Value.ref l == Value.none) = true then _ else _) _ _ s
  rw [if_neg (show ¬ ((Value.ref l == Value.none) = true) from Bool.false_ne_true)]
  show wpAny _ _ (field (.ref it) 1 >>= _) _ _ s
  refine wpAny_bind (wpAny_field ho rfl (x := .int i 0) rfl ?_)
  show wpAny _ _ (seqItems? (.ref l) >>= _) _ _ s
  refine wpAny_bind (wpAny_seqItems hl rfl ?_)
  simp only [Int.toNat_natCast, hx]
  refine wpAny_bind (wpAny_setField ho rfl (by simp) (wpAny_pure ⟨x, rfl, hQ _ ?_ (Heap.SameBut.update ..)⟩))
  have := Heap.get?_update_self (Obj.mapFields (·.setIfInBounds 1 (rawInt ((i : Int) + 1)))) ho (Obj.isFreed_of_fields (Obj.data_mapFields rfl _))
  exact this
theorem li_stop {Q : Value → Shared → Prop} (hh : A.handled = none) (ho : s.heap.get? it = some (liObj l i)) (hl : s.heap.get? l = some (listOf items n)) (hx : items[i]? = none)
    (hE : ∀ h₁ h' e, h₁.get? it = some (liDone i) → Heap.SameBut it s.heap h₁ → Heap.NewExc h₁ h' e "StopIteration" → E (.ref e) { s with heap := h' }) :
    wpAny (model prog w) A (Builtin.«list_iterator.__next__» ⟨[.ref it], []⟩) (fun fin s' => ∃ v, fin = .done (.ret v) ∧ Q v s') E s := by
  show wpAny _ _ (field (.ref it) 0 >>= _) _ _ s
  refine wpAny_bind (wpAny_field ho rfl (x := .ref l) rfl ?_)
  show wpAny _ _ (if (Value.ref l == Value.none) = true then _ else _) _ _ s
  rw [if_neg (show ¬ ((Value.ref l == Value.none) = true) from Bool.false_ne_true)]
  show wpAny _ _ (field (.ref it) 1 >>= _) _ _ s
  refine wpAny_bind (wpAny_field ho rfl (x := .int i 0) rfl ?_)
  show wpAny _ _ (seqItems? (.ref l) >>= _) _ _ s
  refine wpAny_bind (wpAny_seqItems hl rfl ?_)
  simp only [Int.toNat_natCast, hx]
  refine wpAny_bind (wpAny_rule (wpAny_bind (wpAny_setField ho rfl (by simp) ?_)))
  have hd1 := Heap.get?_update_self (Obj.mapFields (·.setIfInBounds 0 Value.none)) ho (Obj.isFreed_of_fields (Obj.data_mapFields rfl _))
  show wpAny _ _ (newExc (.type "StopIteration") [] >>= _) _ _ _
  refine wpAny_bind ?_
  simp only [newExc, newTuple]
  refine wpAny_bind (wpAny_newObj_type ?_ (by size_fits))
  refine wpAny_bind (m := firstArgMember _ _) (wpAny_of_eq (a := Value.none) (by first | rfl | (simp only [firstArgMember]; rfl)) ?_)
  refine wpAny_newObj_type ?_ (by size_fits)
  simp only [raiseNew]
  refine wpAny_bind (wpAny_handled ?_)
  rw [hh]
  refine wpAny_bind (wpAny_pure (wpAny_throw ?_))
  exact hE _ _ _ hd1 (Heap.SameBut.update ..) ⟨fun b o hb => Heap.get?_push_of_some _ (Heap.get?_push_of_some _ hb), Heap.get?_none_of_le (by simp), ⟨_, _, Heap.get?_push_size _ rfl, rfl, rfl⟩⟩
end

end
local macro_rules | `(tactic| walk_at "HGET") => `(tactic| first | assumption | exact (News.get (by assumption) (by walk_at "MEM")) | exact (Fr.keep (by assumption) _ _ (by assumption)))
local macro_rules | `(tactic| walk_at "WALKS") => `(tactic| (w_on; repeat' (first | walk1 | (dsimp only; walk1))))
local macro_rules | `(tactic| walk_at "getAttr ref") => `(tactic| ((with_reducible show wpAny _ _ (getAttr _ (Str.ofString "_node2info") _) _ _ _); k_dflt (refine ga181 (by assumption) (by assumption) (InstAt.mk1 (by walk_at "HGET") (by walk_at "HGET")) (by kernel_rfl) (by kernel_rfl) (by rfl) (by rfl) ?_; try dsimp only)))
local macro_rules | `(tactic| walk_at "getAttr ref") => `(tactic| ((with_reducible show wpAny _ _ (getAttr _ (Str.ofString "_ready_nodes") _) _ _ _); k_dflt (refine ga181 (by assumption) (by assumption) (InstAt.mk1 (by walk_at "HGET") (by walk_at "HGET")) (by kernel_rfl) (by kernel_rfl) (by rfl) (by rfl) ?_; try dsimp only)))
local macro_rules | `(tactic| walk_at "getAttr ref") => `(tactic| ((with_reducible show wpAny _ _ (getAttr _ (Str.ofString "_npassedout") _) _ _ _); k_dflt (refine ga181 (by assumption) (by assumption) (InstAt.mk1 (by walk_at "HGET") (by walk_at "HGET")) (by kernel_rfl) (by kernel_rfl) (by rfl) (by rfl) ?_; try dsimp only)))
local macro_rules | `(tactic| walk_at "getAttr ref") => `(tactic| ((with_reducible show wpAny _ _ (getAttr _ (Str.ofString "_nfinished") _) _ _ _); k_dflt (refine ga181 (by assumption) (by assumption) (InstAt.mk1 (by walk_at "HGET") (by walk_at "HGET")) (by kernel_rfl) (by kernel_rfl) (by rfl) (by rfl) ?_; try dsimp only)))
local macro_rules | `(tactic| walk_at "eval Name") => `(tactic| (name_kind "globalImplicit"; k_dflt (first
  | (refine gname (by assumption) (by assumption) (by with_reducible first | exact gnUNODEUOUT _ | exact gnUNODEUDONE _ | exact gnUNodeInfo _ | exact gnCycleError _ | exact gnfilterfalse _ | exact gnUfilter _ | exact gnTopologicalSorter _ | exact gnUlawUlists _ | exact gnUlawUways _ | exact gnUlawUring _) ?_)
  | (refine bname (by assumption) (by assumption) (by kernel_rfl) (by boot_fast) (by decide) ?_))))
local macro_rules | `(tactic| walk_at "call type:bool") => `(tactic| k_dflt (refine call_bool_list (isListH (by walk_at "HGET")) (by first | assumption | omega) ?_; try dsimp only))
local macro_rules | `(tactic| walk_at "exec Assign") => `(tactic| (with_reducible refine plainObj_wpAny_Assign_Attribute ?_ ?_; rotate_left; with_unfolding_all rfl))
local macro_rules | `(tactic| walk_at "subscriptTail") => `(tactic| k_dflt (refine kda_item (knd := intKind _ _) (by assumption) (by k_mem) (by assumption) (intKind_is _ _ _ _) (by assumption) ?_; try dsimp only))
local macro_rules | `(tactic| walk_at "getMethod ref") => `(tactic| ((with_reducible show wpAny _ _ (getMethod _ (Str.ofString "clear") _) _ _ _); k_dflt (refine' listMethod_K ?N ?m PySem.F.slot_list_clear PySem.F.type_list_clear ?_; (case N => assumption); (case m => walk_at "MEM"))))
local macro_rules | `(tactic| walk_at "getMethod ref") => `(tactic| ((with_reducible show wpAny _ _ (getMethod _ (Str.ofString "append") _) _ _ _); k_dflt (refine' listMethod_K ?N ?m PySem.F.slot_list_append PySem.F.type_list_append ?_; (case N => assumption); (case m => walk_at "MEM"))))
local macro_rules | `(tactic| walk_at "eval NamedExpr") => `(tactic| refine wpAny_NamedExpr ?_)
local macro_rules | `(tactic| walk_at "getMethod ref") => `(tactic| ((with_reducible show wpAny _ _ (getMethod _ (Str.ofString "get") _) _ _ _); k_dflt (refine' kdg_method (knd := intKind _ _) ?N ?p ?d ?_; (case N => assumption); (case d => assumption); (case p => walk_at "MEM"))))
local macro_rules | `(tactic| walk_at "call builtin:dict.get") => `(tactic| k_dflt (refine' kdg_get1 (knd := intKind _ _) ?N ?p ?d ?lo (intKind_is _ _ _ _) _ ?hl ?_; (case N => assumption); (case d => assumption); (case p => walk_at "MEM"); (case lo => assumption); (case hl => assumption); try dsimp only [Option.getD_some, Option.getD_none]))
local macro_rules | `(tactic| walk_at "eval Name") => `(tactic| (name_kind "local"; k_dflt (refine PyProof.Rows.ld (by assumption) (by with_unfolding_all rfl) ?_)))
local macro_rules | `(tactic| walk_at "exec For") => `(tactic| k_dflt ((rename Fr _ _ _ _ => lF'); refine' For_invVF lF' ?k1 ?k2 ?_; (case k1 => exact rfl); (case k2 => exact rfl)))
local macro_rules | `(tactic| walk_at "pyIter ref") => `(tactic| refine Halt.go ?_)
local macro_rules | `(tactic| walk_at "exec Raise") => `(tactic| refine Halt.go ?_)
local macro_rules | `(tactic| walk_at "assign Subscript") => `(tactic| with_reducible refine kas_sub ?_)
local macro_rules | `(tactic| walk_at "DEPTH") => `(tactic| (simp only [depth_deeper, units_deeper]; omega))
local macro_rules | `(tactic| walk_at "exec While") => `(tactic| refine Halt.go ?_)
local macro_rules | `(tactic| walk_at "call builtin:next") => `(tactic| refine Halt.go ?_)
local macro_rules | `(tactic| walk_at "callWith ref") => `(tactic| k_dflt (first | (refine cwWrap (by walk_at "HGET") ?_; try dsimp only) | (refine cwWrap0 (by walk_at "HGET") ?_; try dsimp only)))
local macro_rules | `(tactic| walk_at "And") => `(tactic| ((with_reducible show HasAt _ _ _ ∧ _); refine And.intro (by k_dflt (unfold HasAt; walk_at "HGET")) ?_; try dsimp only [List.nil_append, List.cons_append]))
local macro_rules | `(tactic| walk_at "compareOp Is") => `(tactic| ((with_reducible show wpAny _ _ (compareOp CmpOp.Is (Value.ref _) (Value.type _)) _ _ _); refine wpAny_is_other (by rfl) (by (intro x; cases x)) ?_))
local macro_rules | `(tactic| walk_at "compareOp In") => `(tactic| ((with_reducible show wpAny _ _ (compareOp CmpOp.In (Value.int _ _) (Value.ref _)) _ _ _); k_dflt (refine' kda_in (knd := intKind _ _) ?N ?p ?d ?lo (intKind_is _ _ _ _) _ ?b ?_; (case N => assumption); (case d => assumption); (case p => walk_at "MEM"); (case lo => assumption); (case b => assumption))))
local macro_rules | `(tactic| walk_at "eval Attribute Call") => `(tactic| refine Attribute_any_ ?_)
local macro_rules | `(tactic| walk_at "eval Attribute Subscript") => `(tactic| refine Attribute_any_ ?_)
section
theorem reset_C1 : True := by
  w_top off
  trivial
/-- a _NodeInfo with its (unused) dict and its list of successors -/
structure Nd where
  (key : Int) (nt : Nat) (np : Int) (pt : Nat) (a da sa : Addr) (succ : List (Int × Nat)) (sn : Nat)
abbrev ivals (l : List (Int × Nat)) : List Value := l.map fun p => .int p.1 p.2
abbrev nodeObj (da : Addr) (k : Int) (kt : Nat) (np : Int) (pt : Nat) (sa : Addr) : Obj := ⟨.ref 84, some da, .plain, #[some (.int k kt), some (.int np pt), some (.ref sa)]⟩
abbrev Nd.node (d : Nd) : Obj := nodeObj d.da d.key d.nt d.np d.pt d.sa
abbrev Nd.list (d : Nd) : Obj := listOf (ivals d.succ).toArray d.sn
def Nd.objs (d : Nd) : List (Addr × Obj) := [(d.a, d.node), (d.da, dictOf [] 0), (d.sa, d.list)]
def famOf (l : List Nd) : List (Addr × Obj) := l.flatMap Nd.objs

theorem mem_fam_a {l : List Nd} {i : Nat} {d : Nd} (h : l[i]? = some d) : (d.a, d.node) ∈ famOf l := List.mem_flatMap.mpr ⟨d, List.mem_of_getElem? h, by simp [Nd.objs]⟩
theorem mem_fam_d {l : List Nd} {i : Nat} {d : Nd} (h : l[i]? = some d) : (d.da, dictOf [] 0) ∈ famOf l := List.mem_flatMap.mpr ⟨d, List.mem_of_getElem? h, by simp [Nd.objs]⟩
theorem mem_fam_s {l : List Nd} {i : Nat} {d : Nd} (h : l[i]? = some d) : (d.sa, d.list) ∈ famOf l := List.mem_flatMap.mpr ⟨d, List.mem_of_getElem? h, by simp [Nd.objs]⟩

section
variable {w : World} {A : Around} {E : Value → Shared → Prop} {s : Shared} {g : Heap} {L a x dx : Addr} {m : Str → Option Value} {od : Obj} {k np : Int} {kt pt : Nat} {sa : Addr} {news news' : List (Addr × Obj)}

theorem gaNp {expr : Bool} {Q : Value → Shared → Prop} (F : Fr g L s.heap m) (B : Bs w g) (I : InstAt s.heap x (nodeObj dx k kt np pt sa) 84 (some od)) (h : Q (.int np pt) { s with toks := s.toks + 1 }) :
    wpAny (model Challenge.pw_ij0208_01 w) A (getAttr (.ref x) "npredecessors" expr) Q E s :=
  get_slot (p := 86) (i := 1) F B.X I (by kernel_rfl) (by kernel_rfl) (by kernel_rfl) (by kernel_rfl) (by kernel_rfl) (by kernel_rfl) rfl rfl h
theorem gaSucc {expr : Bool} {Q : Value → Shared → Prop} (F : Fr g L s.heap m) (B : Bs w g) (I : InstAt s.heap x (nodeObj dx k kt np pt sa) 84 (some od)) (h : Q (.ref sa) { s with toks := s.toks + 1 }) :
    wpAny (model Challenge.pw_ij0208_01 w) A (getAttr (.ref x) "successors" expr) Q E s :=
  get_slot (p := 87) (i := 2) F B.X I (by kernel_rfl) (by kernel_rfl) (by kernel_rfl) (by kernel_rfl) (by kernel_rfl) (by kernel_rfl) rfl rfl h
theorem gaNode {expr : Bool} {Q : Value → Shared → Prop} (F : Fr g L s.heap m) (B : Bs w g) (I : InstAt s.heap x (nodeObj dx k kt np pt sa) 84 (some od)) (h : Q (.int k kt) { s with toks := s.toks + 1 }) :
    wpAny (model Challenge.pw_ij0208_01 w) A (getAttr (.ref x) "node" expr) Q E s :=
  get_slot (p := 85) (i := 0) F B.X I (by kernel_rfl) (by kernel_rfl) (by kernel_rfl) (by kernel_rfl) (by kernel_rfl) (by kernel_rfl) rfl rfl h
theorem saNp {v : Int} {t : Nat} {Q : Unit → Shared → Prop} (F : Fr g L s.heap m) (B : Bs w g) (N : News g L s.heap news) (I : InstAt s.heap x (nodeObj dx k kt np pt sa) 84 (some od))
    (U : Upd x (nodeObj dx k kt np pt sa) (nodeObj dx k kt v t sa) news news')
    (h : ∀ h', Fr g L h' m → News g L h' news' → Q () { s with heap := h', toks := s.toks + 1 }) :
    wpAny (model Challenge.pw_ij0208_01 w) A (setAttr (.ref x) "npredecessors" (.int v t)) Q E s :=
  set_slot (p := 86) (i := 1) F B.X N I (by kernel_rfl) (by kernel_rfl) (by kernel_rfl) (by kernel_rfl) (by kernel_rfl) (by decide) rfl rfl U h
end

/-- distinct addresses -/
def Nod (l : List (Addr × Obj)) : Prop := (l.map (·.1)).Nodup
theorem nod_cons {p : Addr × Obj} {l : List (Addr × Obj)} : Nod (p :: l) ↔ (∀ q ∈ l, q.1 ≠ p.1) ∧ Nod l := by
  unfold Nod
  rw [List.map_cons, List.nodup_cons]
  refine and_congr ⟨fun h q hq e => h (List.mem_map.mpr ⟨q, hq, e⟩), fun h hm => ?_⟩ Iff.rfl
  obtain ⟨q, hq, e⟩ := List.mem_map.mp hm
  exact h q hq e
theorem nodCons {l : List (Addr × Obj)} {D : Addr} {o : Obj} (h : Nod l) (hl : ∀ p ∈ l, p.1 < D) : Nod ((D, o) :: l) := nod_cons.mpr ⟨fun q hq => Nat.ne_of_lt (hl q hq), h⟩
theorem updH {d : Addr} {o o' : Obj} {r : List (Addr × Obj)} (h : Nod ((d, o) :: r)) : Upd d o o' ((d, o) :: r) ((d, o') :: r) := .head fun p hp => (nod_cons.mp h).1 p hp
theorem updT {d : Addr} {o o' : Obj} {p : Addr × Obj} {r r' : List (Addr × Obj)} (h : Nod (p :: r)) (hm : (d, o) ∈ r) (U : Nod r → Upd d o o' r r') : Upd d o o' (p :: r) (p :: r') :=
  .tail (fun e => (nod_cons.mp h).1 _ hm e.symm) (U (nod_cons.mp h).2)
theorem updFH {d : Addr} {o : Obj} {r : List (Addr × Obj)} (h : Nod ((d, o) :: r)) : UpdF d o ((d, o) :: r) (fun o' => (d, o') :: r) := .head fun p hp => (nod_cons.mp h).1 p hp
theorem updFT {d : Addr} {o : Obj} {p : Addr × Obj} {r : List (Addr × Obj)} {g : Obj → List (Addr × Obj)} (h : Nod (p :: r)) (hm : (d, o) ∈ r) (U : Nod r → UpdF d o r g) : UpdF d o (p :: r) (fun o' => p :: g o') :=
  .tail (fun e => (nod_cons.mp h).1 _ hm e.symm) (U (nod_cons.mp h).2)
theorem Nod.of_map {l l' : List (Addr × Obj)} (h : Nod l) (e : l'.map (·.1) = l.map (·.1)) : Nod l' := by unfold Nod; rw [e]; exact h
theorem nod_upd {l l' : List (Addr × Obj)} {d : Addr} {o o' : Obj} (U : Upd d o o' l l') (h : Nod l) : Nod l' := by
  refine h.of_map ?_
  induction U with
  | head => rfl
  | tail _ _ ih => simp only [List.map_cons, ih (nod_cons.mp h).2]
theorem nod_updF {l : List (Addr × Obj)} {g : Obj → List (Addr × Obj)} {d : Addr} {o : Obj} (U : UpdF d o l g) (h : Nod l) (o' : Obj) : Nod (g o') := by
  refine h.of_map ?_
  induction U with
  | head => rfl
  | tail _ _ ih => simp only [List.map_cons, ih (nod_cons.mp h).2]
theorem upd_split {pre post : List (Addr × Obj)} {d : Addr} {o o' : Obj} (h : Nod (pre ++ (d, o) :: post)) : Upd d o o' (pre ++ (d, o) :: post) (pre ++ (d, o') :: post) := by
  induction pre with
  | nil =>
    refine .head fun p hp e => ?_
    exact (nod_cons.mp (h : Nod ((d, o) :: post))).1 p hp e
  | cons q r ih =>
    have h' := nod_cons.mp (h : Nod (q :: (r ++ (d, o) :: post)))
    exact .tail (fun e => h'.1 (d, o) (by simp) e.symm) (ih h'.2)

theorem fam_split {l : List Nd} {i : Nat} {d : Nd} (h : l[i]? = some d) : famOf l = famOf (l.take i) ++ (d.objs ++ famOf (l.drop (i + 1))) := by
  obtain ⟨hi, rfl⟩ := List.getElem?_eq_some_iff.mp h
  have e := congrArg famOf (List.take_append_drop i l).symm
  rw [List.drop_eq_getElem_cons hi] at e
  refine e.trans ?_
  simp only [famOf, List.flatMap_append, List.flatMap_cons]
theorem fam_set {l : List Nd} {i : Nat} {d d' : Nd} (h : l[i]? = some d) : famOf (l.set i d') = famOf (l.take i) ++ (d'.objs ++ famOf (l.drop (i + 1))) := by
  obtain ⟨hi, rfl⟩ := List.getElem?_eq_some_iff.mp h
  rw [List.set_eq_take_append_cons_drop, if_pos hi]
  simp [famOf]

theorem upd_np {A : List (Addr × Obj)} {l : List Nd} {i : Nat} {d : Nd} {v : Int} {t : Nat} (h : l[i]? = some d) (hn : Nod (A ++ famOf l)) :
    Upd d.a d.node (nodeObj d.da d.key d.nt v t d.sa) (A ++ famOf l) (A ++ famOf (l.set i { d with np := v, pt := t })) := by
  rw [fam_set h, fam_split h] at *
  have e : ∀ x : Obj, A ++ (famOf (l.take i) ++ ([(d.a, x), (d.da, dictOf [] 0), (d.sa, d.list)] ++ famOf (l.drop (i + 1)))) = (A ++ famOf (l.take i)) ++ (d.a, x) :: ([(d.da, dictOf [] 0), (d.sa, d.list)] ++ famOf (l.drop (i + 1))) := by
    intro x; simp
  show Upd _ _ _ (A ++ (famOf (l.take i) ++ ([(d.a, d.node), (d.da, dictOf [] 0), (d.sa, d.list)] ++ famOf (l.drop (i + 1))))) (A ++ (famOf (l.take i) ++ ([(d.a, _), (d.da, dictOf [] 0), (d.sa, d.list)] ++ famOf (l.drop (i + 1)))))
  have hn' : Nod (A ++ (famOf (l.take i) ++ ([(d.a, d.node), (d.da, dictOf [] 0), (d.sa, d.list)] ++ famOf (l.drop (i + 1))))) := hn
  rw [e] at hn'
  rw [e, e]
  exact upd_split hn'
theorem upd_succ {A : List (Addr × Obj)} {l : List Nd} {i : Nat} {d : Nd} {sc : List (Int × Nat)} {n : Nat} (h : l[i]? = some d) (hn : Nod (A ++ famOf l)) :
    Upd d.sa d.list (listOf (ivals sc).toArray n) (A ++ famOf l) (A ++ famOf (l.set i { d with succ := sc, sn := n })) := by
  rw [fam_set h, fam_split h] at *
  have e : ∀ x : Obj, A ++ (famOf (l.take i) ++ ([(d.a, d.node), (d.da, dictOf [] 0), (d.sa, x)] ++ famOf (l.drop (i + 1)))) = (A ++ famOf (l.take i) ++ [(d.a, d.node), (d.da, dictOf [] 0)]) ++ (d.sa, x) :: famOf (l.drop (i + 1)) := by
    intro x; simp
  show Upd _ _ _ (A ++ (famOf (l.take i) ++ ([(d.a, d.node), (d.da, dictOf [] 0), (d.sa, d.list)] ++ famOf (l.drop (i + 1))))) (A ++ (famOf (l.take i) ++ ([(d.a, d.node), (d.da, dictOf [] 0), (d.sa, _)] ++ famOf (l.drop (i + 1)))))
  have hn' : Nod (A ++ (famOf (l.take i) ++ ([(d.a, d.node), (d.da, dictOf [] 0), (d.sa, d.list)] ++ famOf (l.drop (i + 1))))) := hn
  rw [e] at hn'
  rw [e, e]
  exact upd_split hn'
/-- the addresses stay when a node's numbers turn -/
theorem upd_npF {l : List Nd} {i : Nat} {d : Nd} {v : Int} {t : Nat} (h : l[i]? = some d) (hn : Nod (famOf l)) :
    Upd d.a (nodeObj d.da d.key d.nt d.np d.pt d.sa) (nodeObj d.da d.key d.nt v t d.sa) (famOf l) (famOf (l.set i { d with np := v, pt := t })) := upd_np (A := []) h hn
theorem upd_succF {l : List Nd} {i : Nat} {d : Nd} {sc : List (Int × Nat)} {n : Nat} (h : l[i]? = some d) (hn : Nod (famOf l)) :
    Upd d.sa (listOf (ivals d.succ).toArray d.sn) (listOf (ivals sc).toArray n) (famOf l) (famOf (l.set i { d with succ := sc, sn := n })) := upd_succ (A := []) h hn
theorem getSet {l : List Nd} {i : Nat} {d d' : Nd} (h : l[i]? = some d) : (l.set i d')[i]? = some d' := List.getElem?_set_self (List.getElem?_eq_some_iff.mp h).1

end
section
open PyProof.V PySem.Spec
/-- what a turn of a loop over I leaves -/
inductive TurnE (g : Heap) (L I : Addr) (o : Obj) (Jn : (Str → Option Value) → List (Addr × Obj) → Prop) (s₁ s₂ : Shared) : Prop
  | mk (h' : _) (tk : _) (m' : _) (nx : _) (a0 : s₂ = { s₁ with heap := h', toks := tk }) (a1 : Fr g L h' m') (a2 : News g L h' ((I, o) :: nx)) (a3 : Nod ((I, o) :: nx)) (a4 : Jn m' nx) : TurnE g L I o Jn s₁ s₂
def TurnJ (g : Heap) (L I : Addr) (o : Obj) (Jn : (Str → Option Value) → List (Addr × Obj) → Prop) (s₁ : Shared) (Q : Flow → Shared → Prop) (f : Flow) (s₂ : Shared) : Prop :=
  match f with
  | .ret v => Q (.ret v) s₂
  | .brk => Q .next s₂
  | _ => TurnE g L I o Jn s₁ s₂

section
variable {prog : Program} {w : World} {A : Around} {E : Value → Shared → Prop} {s : Shared} {env : Env} {g : Heap} {x : Str} {body : List Stmt} {Q : Flow → Shared → Prop}

theorem loopJ {I : Addr} {fp : List Addr} {n : Nat} {P : Nat → Value → Prop} {St : Nat → Heap → Prop} {m₀ : Str → Option Value} {news : List (Addr × Obj)}
    (J : Nat → (Str → Option Value) → List (Addr × Obj) → Prop)
    (W : Walks prog w A I fp [I] n P St) (hIf : I ∈ fp) (hob : ∀ i h, St i h → ∃ o, h.get? I = some o)
    (hl : ∀ b ∈ fp, b ≠ I → ∃ ob, ∀ i m nw (h : Heap), J i m nw → (∀ p ∈ nw, h.get? p.1 = some p.2) → (∀ b o, g.get? b = some o → h.get? b = some o) → h.get? b = some ob)
    (hLf : env.locals ∉ fp) (hI0 : g.get? I = none) (hst : St 0 s.heap) (F : Fr g env.locals s.heap m₀) (N : News g env.locals s.heap news) (hnd : Nod news) (hnI : ∀ p ∈ news, p.1 ≠ I) (h0 : J 0 m₀ news)
    (turn : ∀ i v m nw h tk o, i < n → P i v → J i m nw → Nod ((I, o) :: nw) → Fr g env.locals h (fun y => if y = x then some v else m y) → News g env.locals h ((I, o) :: nw) →
      wpAny (model prog w) A (execs body env) (TurnJ g env.locals I o (J (i + 1)) { s with heap := h, toks := tk } Q) E { s with heap := h, toks := tk })
    (done : ∀ m nw h tk, J n m nw → Nod nw → Fr g env.locals h m → News g env.locals h nw → Q .next { s with heap := h, toks := tk }) :
    LoopAtV prog w A g env x body Q E (.ref I) s := by
  let J' : Nat → (Str → Option Value) → List (Addr × Obj) → Prop := fun i m nw => J i m nw ∧ Nod nw
  refine ⟨I, fp, [I], n, P, St, m₀, news, J', rfl, W, hLf, (fun b hb => by rw [List.mem_singleton.mp hb]; exact hI0), (fun p hp hb => hnI p hp (List.mem_singleton.mp hb)), hst, F, N, ⟨h0, hnd⟩, ?_, ?_⟩
  · rintro i v m₁ nw s₁ own ⟨hh', tk', rfl⟩ hin hP ⟨hJ, hnd₁⟩ hoff hown hget hall hst' F₁ N₁
    obtain ⟨o, ho⟩ := hob _ _ hst'
    have hIo : (I, o) ∈ own := hall I hIf hI0 o ho
    have N₂ : News g env.locals hh' ((I, o) :: nw) := fun p hp => by
      rcases List.mem_cons.mp hp with rfl | hp
      · exact N₁ _ (List.mem_append_left _ hIo)
      · exact N₁ _ (List.mem_append_right _ hp)
    have hnd₂ : Nod ((I, o) :: nw) := by
      exact nod_cons.mpr ⟨fun p hp e => hoff p hp (List.mem_singleton.mpr e), hnd₁⟩
    refine wpAny_mono (turn i v m₁ nw hh' tk' o hin hP hJ hnd₂ F₁ N₂) (fun f s₂ p => ?_) fun _ _ e => e
    have fin : TurnE g env.locals I o (J (i + 1)) { s with heap := hh', toks := tk' } s₂ →
        LoopStepU g env.locals [I] own (J' (i + 1)) { s with heap := hh', toks := tk' } .next s₂ := by
      rintro ⟨h', tk, m', nx, rfl, F', N', hnd', hJ'⟩
      rw [nod_cons] at hnd'
      refine ⟨rfl, h', tk, m', nx, rfl, F', fun p hp => ?_, fun p hp hb => ?_, hJ', hnd'.2⟩
      · rcases List.mem_append.mp hp with hp | hp
        · have q := N₁ p (List.mem_append_left _ hp)
          refine ⟨?_, q.2⟩
          by_cases e : p.1 = I
          · have e2 : p.2 = o := by
              have h1 := hget p hp
              rw [e] at h1
              exact (Option.some.inj (h1.symm.trans ho))
            rw [e, e2]
            exact (N' (I, o) (.head _)).1
          · obtain ⟨ob, hob'⟩ := hl p.1 (hown p hp) e
            have h1 := hob' i m₁ nw hh' hJ (fun q hq => (N₂ q (.tail _ hq)).1) F₁.keep
            have h2 := hob' (i + 1) m' nx h' hJ' (fun q hq => (N' q (.tail _ hq)).1) F'.keep
            rw [h2]
            exact h1.symm.trans (hget p hp)
        · exact N' p (.tail _ hp)
      · exact hnd'.1 p hp (List.mem_singleton.mp hb)
    cases f with
    | ret v => exact .ret p
    | brk => exact .brk p
    | next => exact .next (fin p)
    | cont => exact .cont (fin p)
  · rintro h' tk m' news' F' N' _ ⟨hJ, hnd'⟩
    exact done m' news' h' tk hJ hnd' F' N'

/-- a for over a tuple that stands in the ledger or in the base -/
theorem iterT {t : Addr} {items : Array Value} {nt : Nat} {m₀ : Str → Option Value} {news : List (Addr × Obj)}
    (J : Nat → (Str → Option Value) → List (Addr × Obj) → Prop) (hh : A.handled = none)
    (F : Fr g env.locals s.heap m₀) (N : News g env.locals s.heap news) (hnd : Nod news)
    (ht : (∀ i m nw, J i m nw → (t, (⟨.type "tuple", none, .seq items nt, #[]⟩ : Obj)) ∈ nw) ∨ g.get? t = some ⟨.type "tuple", none, .seq items nt, #[]⟩) (h0 : J 0 m₀ news)
    (turn : ∀ I i v m nw h tk o, items[i]? = some v → (∀ p ∈ news, p.1 < I) → J i m nw → Nod ((I, o) :: nw) → Fr g env.locals h (fun y => if y = x then some v else m y) → News g env.locals h ((I, o) :: nw) →
      wpAny (model prog w) A (execs body env) (TurnJ g env.locals I o (J (i + 1)) { s with heap := h, toks := tk } Q) E { s with heap := h, toks := tk })
    (done : ∀ m nw h tk, J items.size m nw → Nod nw → Fr g env.locals h m → News g env.locals h nw → Q .next { s with heap := h, toks := tk }) :
    wpAny (model prog w) A (pyIter (.ref t)) (fun it s₂ => LoopAtV prog w A g env x body Q E it s₂) E s := by
  have hts : s.heap.get? t = some ⟨.type "tuple", none, .seq items nt, #[]⟩ := by
    rcases ht with ht | ht
    · exact (N _ (ht 0 m₀ news h0)).1
    · exact F.keep _ _ ht
  have hT : s.heap.IsTuple t items := ⟨_, hts, rfl, nt, rfl⟩
  have hne : t ≠ s.heap.objs.size := Nat.ne_of_lt (Heap.lt_size hts)
  refine wpAny_pyIter_tuple hT ?_
  refine loopJ (s := { s with heap := s.heap.push { cls := .type "tuple_iterator", data := .fields #[.ref t, .int 0 0] } }) J (Walks.tuple (prog := prog) (w := w) hh s.heap.objs.size t hne items) (List.mem_cons.mpr (.inl rfl)) ?_ ?_ ?_ (next_is_new F) ?_ (F.push _) (fun p hp => ⟨Heap.get?_push_of_some _ (N p hp).1, (N p hp).2⟩) hnd (fun p hp => Nat.ne_of_lt (Heap.lt_size (N p hp).1)) h0 ?_ done
  · rintro i h ⟨⟨o, ho, _⟩, _⟩; exact ⟨o, ho⟩
  · intro b hb hne'
    rcases List.mem_cons.mp hb with e | hb
    · exact absurd e hne'
    · rw [List.mem_singleton.mp hb]
      refine ⟨⟨.type "tuple", none, .seq items nt, #[]⟩, fun i m nw h hJ hN hg => ?_⟩
      rcases ht with ht | ht
      · exact hN _ (ht i m nw hJ)
      · exact hg _ _ ht
  · intro hm
    rcases List.mem_cons.mp hm with e | hm
    · exact absurd F.ns.lt (e ▸ Nat.lt_irrefl _)
    · have e := List.mem_singleton.mp hm
      rcases ht with ht | ht
      · exact (N _ (ht 0 m₀ news h0)).2.1 e.symm
      · exact absurd (Nat.lt_of_lt_of_le (Heap.lt_size ht) F.above) (e ▸ Nat.lt_irrefl _)
  · exact ⟨⟨_, Heap.get?_push_size _ rfl, rfl, rfl⟩, ⟨_, Heap.get?_push_of_some _ hts, rfl, nt, rfl⟩⟩
  · intro i v m nw h tk o hi hP hJ hn F' N'
    exact turn _ i v m nw h tk o hP (fun p hp => Heap.lt_size (N p hp).1) hJ hn F' N'
/-- a for over a list that stands in the ledger or in the base -/
theorem iterL {t : Addr} {items : Array Value} {nt : Nat} {m₀ : Str → Option Value} {news : List (Addr × Obj)}
    (J : Nat → (Str → Option Value) → List (Addr × Obj) → Prop) (hh : A.handled = none)
    (F : Fr g env.locals s.heap m₀) (N : News g env.locals s.heap news) (hnd : Nod news)
    (ht : (∀ i m nw, J i m nw → (t, listOf items nt) ∈ nw) ∨ g.get? t = some (listOf items nt)) (h0 : J 0 m₀ news)
    (turn : ∀ I i v m nw h tk o, items[i]? = some v → (∀ p ∈ news, p.1 < I) → J i m nw → Nod ((I, o) :: nw) → Fr g env.locals h (fun y => if y = x then some v else m y) → News g env.locals h ((I, o) :: nw) →
      wpAny (model prog w) A (execs body env) (TurnJ g env.locals I o (J (i + 1)) { s with heap := h, toks := tk } Q) E { s with heap := h, toks := tk })
    (done : ∀ m nw h tk, J items.size m nw → Nod nw → Fr g env.locals h m → News g env.locals h nw → Q .next { s with heap := h, toks := tk }) :
    wpAny (model prog w) A (pyIter (.ref t)) (fun it s₂ => LoopAtV prog w A g env x body Q E it s₂) E s := by
  have hts : s.heap.get? t = some (listOf items nt) := by
    rcases ht with ht | ht
    · exact (N _ (ht 0 m₀ news h0)).1
    · exact F.keep _ _ ht
  have hT : s.heap.IsList t items := ⟨_, hts, rfl, nt, rfl⟩
  have hne : t ≠ s.heap.objs.size := Nat.ne_of_lt (Heap.lt_size hts)
  refine wpAny_pyIter_list hT ?_
  refine loopJ (s := { s with heap := s.heap.push { cls := .type "list_iterator", data := .fields #[.ref t, .int 0 0] } }) J (Walks.list (prog := prog) (w := w) hh s.heap.objs.size t hne items) (List.mem_cons.mpr (.inl rfl)) ?_ ?_ ?_ (next_is_new F) ?_ (F.push _) (fun p hp => ⟨Heap.get?_push_of_some _ (N p hp).1, (N p hp).2⟩) hnd (fun p hp => Nat.ne_of_lt (Heap.lt_size (N p hp).1)) h0 ?_ done
  · rintro i h ⟨⟨o, ho, _⟩, _⟩; exact ⟨o, ho⟩
  · intro b hb hne'
    rcases List.mem_cons.mp hb with e | hb
    · exact absurd e hne'
    · rw [List.mem_singleton.mp hb]
      refine ⟨(listOf items nt), fun i m nw h hJ hN hg => ?_⟩
      rcases ht with ht | ht
      · exact hN _ (ht i m nw hJ)
      · exact hg _ _ ht
  · intro hm
    rcases List.mem_cons.mp hm with e | hm
    · exact absurd F.ns.lt (e ▸ Nat.lt_irrefl _)
    · have e := List.mem_singleton.mp hm
      rcases ht with ht | ht
      · exact (N _ (ht 0 m₀ news h0)).2.1 e.symm
      · exact absurd (Nat.lt_of_lt_of_le (Heap.lt_size ht) F.above) (e ▸ Nat.lt_irrefl _)
  · exact ⟨⟨_, Heap.get?_push_size _ rfl, rfl, rfl⟩, ⟨_, Heap.get?_push_of_some _ hts, rfl, nt, rfl⟩⟩
  · intro i v m nw h tk o hi hP hJ hn F' N'
    exact turn _ i v m nw h tk o hP (fun p hp => Heap.lt_size (N p hp).1) hJ hn F' N'
end
theorem frameOf {st : List Str} {m m₀ : Str → Option Value} (h : ∀ y, st.contains y = false → m y = m₀ y) : ∃ u : Str → Option Value, m = fun y => if st.contains y then u y else m₀ y :=
  ⟨m, by funext y; cases h1 : st.contains y with
         | true => rfl
         | false => exact h y h1⟩

end
section
section
variable {w : World} {A : Around} {E : Value → Shared → Prop} {s : Shared} {g : Heap} {L a x dx : Addr} {m : Str → Option Value} {news news' : List (Addr × Obj)} {d : SD} {D R v : Value} {np nf i : Int} {t : Nat}

theorem sa_ready {Q : Unit → Shared → Prop} (F : Fr g L s.heap m) (B : Bs w g) (N : News g L s.heap news) (I : InstAt s.heap x (sobj dx) 181 (some (sdict d D R np nf)))
    (U : Upd dx (sdict d D R np nf) (sdict d D v np nf) news news')
    (nd : Nod news) (h : ∀ h', Fr g L h' m → News g L h' news' → Nod news' → Q () { s with heap := h', toks := s.toks + 2 }) :
    wpAny (model Challenge.pw_ij0208_01 w) A (setAttr (.ref x) "_ready_nodes" v) Q E s :=
  set_dict F B.X N I rfl (by kernel_rfl) (by kernel_rfl) (by kernel_rfl) (by kernel_rfl) (by rfl) (by rfl) U (Nat.le_of_ble_eq_true (by rfl)) fun h' F' N' => h h' F' N' (nod_upd U nd)
theorem sa_passed {Q : Unit → Shared → Prop} (F : Fr g L s.heap m) (B : Bs w g) (N : News g L s.heap news) (I : InstAt s.heap x (sobj dx) 181 (some (sdict d D R np nf)))
    (U : Upd dx (sdict d D R np nf) (sdict { d with t2 := t } D R i nf) news news')
    (nd : Nod news) (h : ∀ h', Fr g L h' m → News g L h' news' → Nod news' → Q () { s with heap := h', toks := s.toks + 2 }) :
    wpAny (model Challenge.pw_ij0208_01 w) A (setAttr (.ref x) "_npassedout" (.int i t)) Q E s :=
  set_dict F B.X N I rfl (by kernel_rfl) (by kernel_rfl) (by kernel_rfl) (by kernel_rfl) (by rfl) (by rfl) U (Nat.le_of_ble_eq_true (by rfl)) fun h' F' N' => h h' F' N' (nod_upd U nd)
theorem sa_finished {Q : Unit → Shared → Prop} (F : Fr g L s.heap m) (B : Bs w g) (N : News g L s.heap news) (I : InstAt s.heap x (sobj dx) 181 (some (sdict d D R np nf)))
    (U : Upd dx (sdict d D R np nf) (sdict { d with t3 := t } D R np i) news news')
    (nd : Nod news) (h : ∀ h', Fr g L h' m → News g L h' news' → Nod news' → Q () { s with heap := h', toks := s.toks + 2 }) :
    wpAny (model Challenge.pw_ij0208_01 w) A (setAttr (.ref x) "_nfinished" (.int i t)) Q E s :=
  set_dict F B.X N I rfl (by kernel_rfl) (by kernel_rfl) (by kernel_rfl) (by kernel_rfl) (by rfl) (by rfl) U (Nat.le_of_ble_eq_true (by rfl)) fun h' F' N' => h h' F' N' (nod_upd U nd)

theorem nodCons' {h : Heap} {l : List (Addr × Obj)} {D : Addr} {o : Obj} (_ : News g L h ((D, o) :: l)) (h : Nod l) (hl : ∀ p ∈ l, p.1 < D) : Nod ((D, o) :: l) := nodCons h hl
theorem saNpN {k kt pt sa da} {od : Obj} {v : Int} {Q : Unit → Shared → Prop} (F : Fr g L s.heap m) (B : Bs w g) (N : News g L s.heap news) (I : InstAt s.heap x (nodeObj da k kt np pt sa) 84 (some od))
    (U : Upd x (nodeObj da k kt np pt sa) (nodeObj da k kt v t sa) news news') (nd : Nod news)
    (h : ∀ h', Fr g L h' m → News g L h' news' → Nod news' → Q () { s with heap := h', toks := s.toks + 1 }) :
    wpAny (model Challenge.pw_ij0208_01 w) A (setAttr (.ref x) "npredecessors" (.int v t)) Q E s := saNp F B N I U fun h' F' N' => h h' F' N' (nod_upd U nd)
/-- fresh lists and tuples, their addresses above all that is known -/
theorem newListF {M : Model} {vs : List Value} {Q : Value → Shared → Prop} (F : Fr g L s.heap m) (N : News g L s.heap news)
    (h : ∀ D h', Fr g L h' m → News g L h' ((D, listOf vs.toArray 0) :: news) → (∀ p ∈ news, p.1 < D) → Q (.ref D) { s with heap := h' }) (hsz : vs.length ≤ sizeLine) :
    wpAny M A (newList vs) Q E s :=
  newList_N F N (fun h' F' N' => h _ h' F' N' fun p hp => Heap.lt_size (N p hp).1) hsz
abbrev tupObj (vs : List Value) : Obj := { cls := .type "tuple", data := .seq vs.toArray }
theorem newTupleF {M : Model} {vs : List Value} {Q : Value → Shared → Prop} (F : Fr g L s.heap m) (N : News g L s.heap news)
    (h : ∀ D h', Fr g L h' m → News g L h' ((D, tupObj vs) :: news) → (∀ p ∈ news, p.1 < D) → Q (.ref D) { s with heap := h' }) (hsz : vs.length ≤ sizeLine) :
    wpAny M A (newTuple vs) Q E s :=
  newTuple_N F N (fun h' F' N' => h _ h' F' N' fun p hp => Heap.lt_size (N p hp).1) hsz
end
section
variable {prog : Program} {w : World} {A : Around} {E : Value → Shared → Prop} {s : Shared} {g : Heap} {L l : Addr} {m : Str → Option Value} {news : List (Addr × Obj)} {vs : List Value} {n : Nat}
theorem tupOfList {Q : Value → Shared → Prop} (F : Fr g L s.heap m) (N : News g L s.heap news) (hl : s.heap.get? l = some (listOf vs.toArray n)) (hz : vs.length < 1000)
    (h : ∀ D h', Fr g L h' m → News g L h' ((D, tupObj vs) :: news) → (∀ p ∈ news, p.1 < D) → Q (.ref D) { s with heap := h' }) : wpAny (model prog w) A (call (.type "tuple") [.ref l]) Q E s :=
  kde_tupleOf F N (isListH hl) (by simp; omega) (by simp) h
end
section
variable {prog : Program} {w : World} {A : Around} {E : Value → Shared → Prop} {s : Shared} {g : Heap} {L D : Addr} {m : Str → Option Value} {news news' : List (Addr × Obj)} {its : Array Value} {n : Nat} {gg : Obj → List (Addr × Obj)}
theorem clearF {Q : Value → Shared → Prop} (F : Fr g L s.heap m) (N : News g L s.heap news) (nd : Nod news) (U : UpdF D (listOf its n) news gg) (hz : its.size < 1000)
    (h : ∀ h' n', Fr g L h' m → News g L h' (gg (listOf #[] n')) → Nod (gg (listOf #[] n')) → Q .none { s with heap := h' }) : wpAny (model prog w) A (call (.builtin "list.clear") [.ref D]) Q E s := by
  have nd' := nod_updF U nd
  obtain ⟨pre, post, rfl, hg, a, c⟩ := U.split
  have z := N (D, listOf its n) (List.mem_append.mpr (.inr (.head _)))
  by_cases he : its.size = 0
  · have e0 : its = #[] := Array.eq_empty_of_size_eq_zero he
    subst e0
    have U' : Upd D (listOf #[] n) (listOf #[] n) (pre ++ (D, listOf #[] n) :: post) (pre ++ (D, listOf #[] n) :: post) := upd_split nd
    refine call_meets PySem.F.slot_list_clear ⟨_, z.1, rfl⟩ PySem.F.entry_list_clear (PySem.F.args_list_clear_1 _) (PySem.AutoSeq1.list_clear_list_0 D #[] n (by simp)) ⟨z.1, h _ n (F.change (Heap.SameBut.update ..) z.2.1 z.2.2) ?_ (nd' _)⟩
    rw [hg]
    exact kl_turn0 (fun _ => #[]) N a c rfl rfl
  · refine kl_clear F N (upd_split nd) (by simpa using he) (by rw [sizeLine_eq]; simp; omega) fun h' F' N' => h h' (n + 1) F' (by rw [hg]; exact N') (nd' _)
theorem appendF {x : Value} {Q : Value → Shared → Prop} (F : Fr g L s.heap m) (N : News g L s.heap news) (nd : Nod news) (U : Upd D (listOf its n) (listOf (its.push x) (n + 1)) news news') (hz : its.size < 1000)
    (h : ∀ h', Fr g L h' m → News g L h' news' → Nod news' → Q .none { s with heap := h' }) : wpAny (model prog w) A (call (.builtin "list.append") [.ref D, x]) Q E s :=
  append_K F N U (fun h' F' N' => h h' F' N' (nod_upd U nd)) (by rw [sizeLine_eq]; omega)
end
section
variable {prog : Program} {w : World} {A : Around} {E : Value → Shared → Prop} {s : Shared} {l : Addr} {vs : List Value} {n : Nat}
theorem lenL {Q : Value → Shared → Prop} (hl : s.heap.get? l = some (listOf vs.toArray n)) (hz : vs.length < 1000000) (h : ∀ t t', Q (.int vs.length t) { s with toks := t' }) : wpAny (model prog w) A (call (.builtin "len") [.ref l]) Q E s := by
  have := call_len_list (prog := prog) (w := w) (A := A) (E := E) (Q := Q) (isListH hl) (by simp; omega) (by simpa using h _ _)
  exact this
theorem lenT {Q : Value → Shared → Prop} (hl : s.heap.get? l = some (tupObj vs)) (hz : vs.length < 1000000) (h : ∀ t t', Q (.int vs.length t) { s with toks := t' }) : wpAny (model prog w) A (call (.builtin "len") [.ref l]) Q E s :=
  PyProof.Rows.len_tuple (items := vs.toArray) ⟨_, hl, rfl, 0, rfl⟩ (by simp; omega) (by simpa using h _ _)
end

end
section
theorem nodup_inj {α : Type} {l : List α} (h : l.Nodup) {i j : Nat} {x : α} (hi : l[i]? = some x) (hj : l[j]? = some x) : i = j := by
  obtain ⟨h1, e1⟩ := List.getElem?_eq_some_iff.mp hi
  obtain ⟨h2, e2⟩ := List.getElem?_eq_some_iff.mp hj
  have p := List.pairwise_iff_getElem.mp h
  rcases Nat.lt_trichotomy i j with q | q | q
  · exact absurd (e1.trans e2.symm) (p i j h1 h2 q)
  · exact q
  · exact absurd (e2.trans e1.symm) (p j i h2 h1 q)
/-- the same nodes, their counts turned -/
def NpAre (f : Nd → Int) (l l' : List Nd) : Prop := l'.length = l.length ∧ ∀ (j : Nat) (d : Nd), l[j]? = some d → ∃ t, l'[j]? = some { d with np := f d, pt := t }
theorem NpAre.refl (l : List Nd) : NpAre Nd.np l l := ⟨rfl, fun j d h => ⟨d.pt, h⟩⟩
theorem NpAre.congr {f f' : Nd → Int} {l l' : List Nd} (h : NpAre f l l') (e : ∀ d ∈ l, f d = f' d) : NpAre f' l l' :=
  ⟨h.1, fun j d hd => by rw [← e d (List.mem_of_getElem? hd)]; exact h.2 j d hd⟩
theorem NpAre.back {f : Nd → Int} {l l' : List Nd} (h : NpAre f l l') {j : Nat} {d' : Nd} (hd : l'[j]? = some d') : ∃ d, l[j]? = some d ∧ d' = { d with np := f d, pt := d'.pt } := by
  have hj : j < l.length := h.1 ▸ (List.getElem?_eq_some_iff.mp hd).1
  have e : l[j]? = some l[j] := List.getElem?_eq_getElem hj
  obtain ⟨t, ht⟩ := h.2 j _ e
  rw [hd] at ht
  cases ht
  exact ⟨_, e, rfl⟩
theorem NpAre.map {α : Type} {f : Nd → Int} {l l' : List Nd} (h : NpAre f l l') (p : Nd → α) (hp : ∀ (d : Nd) (n : Int) (t : Nat), p { d with np := n, pt := t } = p d) : l'.map p = l.map p := by
  apply List.ext_getElem?
  intro j
  rw [List.getElem?_map, List.getElem?_map]
  cases e : l[j]? with
  | none =>
    have : l'[j]? = none := by rw [List.getElem?_eq_none_iff, h.1]; exact List.getElem?_eq_none_iff.mp e
    rw [this]
  | some d => obtain ⟨t, ht⟩ := h.2 j d e; rw [ht]; simp only [Option.map_some, hp]
theorem NpAre.adr {f : Nd → Int} {l l' : List Nd} (h : NpAre f l l') : (famOf l').map (·.1) = (famOf l).map (·.1) := by
  have := h.map (fun d => d.objs.map (·.1)) (fun _ _ _ => rfl)
  simp only [famOf, List.map_flatMap]
  rw [List.flatMap_def, List.flatMap_def, this]
theorem NpAre.set {f : Nd → Int} {l l' : List Nd} (h : NpAre f l l') {j : Nat} {d : Nd} (hd : l[j]? = some d) {d' : Nd} (hd' : l'[j]? = some d') (v : Int) (t : Nat) (hk : (l.map Nd.key).Nodup) :
    NpAre (fun x => if x.key = d.key then v else f x) l (l'.set j { d' with np := v, pt := t }) := by
  refine ⟨by rw [List.length_set, h.1], fun i x hx => ?_⟩
  by_cases e : i = j
  · subst e
    rw [hd] at hx; cases hx
    obtain ⟨t', ht⟩ := h.2 i _ hd
    rw [hd'] at ht; cases ht
    refine ⟨t, ?_⟩
    rw [List.getElem?_set_self (List.getElem?_eq_some_iff.mp hd').1]
    simp
  · have hne : x.key ≠ d.key := by
      intro ek
      exact e (nodup_inj hk (x := x.key) (by rw [List.getElem?_map, hx]; rfl) (by rw [List.getElem?_map, hd, ek]; rfl))
    obtain ⟨t', ht⟩ := h.2 i x hx
    refine ⟨t', ?_⟩
    rw [List.getElem?_set_ne (Ne.symm e), ht]
    simp [hne]
abbrev kvsOf (l : List Nd) : List (Int × Value) := l.map fun d => (d.key, .ref d.a)
theorem kvs_keys (l : List Nd) : (kvsOf l).map (·.1) = l.map Nd.key := by simp [kvsOf]
theorem kvs_at {l : List Nd} (hn : (l.map Nd.key).Nodup) {i : Nat} {d : Nd} (h : l[i]? = some d) : valueAt (kvsOf l) d.key = some (.ref d.a) :=
  valueAt_of_get (by rw [kvs_keys]; exact hn) (i := i) (by simp [kvsOf, h])
theorem dict_keys {w : World} {o : Obj} {l : List Nd} (h : o.IsDictOf (intKind Challenge.pw_ij0208_01 w) (kvsOf l)) : (l.map Nd.key).Nodup := by
  obtain ⟨_, _, _, _, _, _, hn⟩ := h
  rw [← kvs_keys]; exact hn
/-- what a call leaves: all that stood but what it may change, and W -/
structure Out (g : Heap) (W : List (Addr × Obj)) (h : Heap) : Prop where
  keep : g.StaysIn h
  own : ∀ p ∈ W, h.get? p.1 = some p.2 ∧ g.get? p.1 = none
  nod : Nod W
theorem Out.of {g : Heap} {L : Addr} {h : Heap} {m : Str → Option Value} {W : List (Addr × Obj)} (F : Fr g L h m) (N : News g L h W) (nd : Nod W) : Out g W h := ⟨F.keep, fun p hp => ⟨(N p hp).1, (N p hp).2.2⟩, nd⟩
theorem Out.sub {g : Heap} {h : Heap} {W W' : List (Addr × Obj)} (O : Out g W h) (hs : ∀ p ∈ W', p ∈ W) (nd : Nod W') : Out g W' h := ⟨O.keep, fun p hp => O.own p (hs p hp), nd⟩
section
variable {g₀ h h' : Heap} {L₀ : Addr} {m : Str → Option Value} {W W' rest : List (Addr × Obj)}
theorem back (F : Fr g₀ L₀ h m) (N : News g₀ L₀ h (W ++ rest)) (nd : Nod (W ++ rest)) (O : Out (hideAll h (W.map (·.1))) W' h') :
    Fr g₀ L₀ h' m ∧ News g₀ L₀ h' (W' ++ rest) ∧ Nod (W' ++ rest) := by
  obtain ⟨oL, es, ep, hL, r⟩ := F.ns
  have notW : ∀ b o, g₀.get? b = some o → b ∉ W.map (·.1) := fun b o e hb => by
    obtain ⟨p, hp, rfl⟩ := List.mem_map.mp hb
    rw [(N p (List.mem_append_left _ hp)).2.2] at e; cases e
  have nL : L₀ ∉ W.map (·.1) := fun hb => by
    obtain ⟨p, hp, e⟩ := List.mem_map.mp hb
    exact (N p (List.mem_append_left _ hp)).2.1 e
  have hLk := hideAll_get (W.map (·.1)) hL nL
  have hrest : ∀ p ∈ rest, (hideAll h (W.map (·.1))).get? p.1 = some p.2 := fun p hp => by
    refine hideAll_get _ (N p (List.mem_append_right _ hp)).1 fun hb => ?_
    obtain ⟨q, hq, e⟩ := List.mem_map.mp hb
    unfold Nod at nd
    rw [List.map_append, List.nodup_append] at nd
    exact nd.2.2 q.1 (List.mem_map_of_mem hq) p.1 (List.mem_map_of_mem hp) e
  refine ⟨⟨⟨oL, es, ep, O.keep _ _ hLk, r⟩, fun b o e => O.keep _ _ (hideAll_get _ (F.keep b o e) (notW b o e)), F.above⟩, fun p hp => ?_, ?_⟩
  · rcases List.mem_append.mp hp with hp | hp
    · refine ⟨(O.own p hp).1, fun e => ?_, ?_⟩
      · have := (O.own p hp).2; rw [e, hLk] at this; cases this
      · cases e : g₀.get? p.1 with
        | none => rfl
        | some o => have := (O.own p hp).2; rw [hideAll_get _ (F.keep _ o e) (notW _ o e)] at this; cases this
    · exact ⟨O.keep _ _ (hrest p hp), (N p (List.mem_append_right _ hp)).2⟩
  · unfold Nod at nd ⊢
    rw [List.map_append, List.nodup_append] at nd ⊢
    refine ⟨O.nod, nd.2.1, fun a ha b hb e => ?_⟩
    obtain ⟨p, hp, rfl⟩ := List.mem_map.mp ha
    obtain ⟨q, hq, rfl⟩ := List.mem_map.mp hb
    have h1 := (O.own p hp).2
    rw [e, hrest q hq] at h1; cases h1
end
theorem frNamed {g h : Heap} {L : Addr} {m : Str → Option Value} (F : Fr g L h m) : ∃ m', m' = m ∧ Fr g L h m' := ⟨m, rfl, F⟩
theorem NpAre.at {f : Nd → Int} {l l' : List Nd} (h : NpAre f l l') {j : Nat} {d : Nd} (hd : l[j]? = some d) : ∃ d', l'[j]? = some d' ∧ d'.a = d.a ∧ d'.key = d.key ∧ d'.succ = d.succ ∧ d'.np = f d ∧ d'.sa = d.sa ∧ d'.sn = d.sn := by
  obtain ⟨t, ht⟩ := h.2 j d hd
  exact ⟨_, ht, rfl, rfl, rfl, rfl, rfl, rfl⟩

end
section
section
variable {M : Model} {A : Around} {E : Value → Shared → Prop} {s : Shared}
theorem wpIteN {α : Type} {c : Prop} [Decidable c] {t e : Sem α} {Q : α → Shared → Prop} (h : ¬ c) (x : wpAny M A e Q E s) : wpAny M A (if c then t else e) Q E s := by rw [if_neg h]; exact x
theorem bindStar1 {fd : FuncData} {a r : Arg} {x : Value} {vs : List Value} {Q : List (Str × Value) → Shared → Prop}
    (hp : fd.params = { posonlyargs := [], args := [a], vararg := some r, kwonlyargs := [], kw_defaults := [], kwarg := none, defaults := [] }) (hd : fd.defaults = .none)
    (hz : vs.length ≤ sizeLine) (h : Q [(a.arg, x), (r.arg, .ref s.heap.objs.size)] { s with heap := s.heap.push (tupObj vs) }) :
    wpAny M A (bindArgs fd ⟨x :: vs, []⟩) Q E s := by
  obtain ⟨f1, f2, f3, f4, f5, f6, f7, f8, f9, f10, f11, f12, f13, f14, f15⟩ := fd
  dsimp only at hp hd
  subst hp hd
  have b1 : (a.arg == a.arg) = true := beq_self_eq_true _
  refine wpAny_bind (wpAny_pure (wpAny_bind (wpAny_bind ?_)))
  show wpAny M A (pure ()) _ _ _
  refine wpAny_pure (wpAny_pure ?_)
  refine wpIteN (by simp) ?_
  refine wpIteN (by simp [b1, List.lookup]) ?_
  refine wpAny_bind (wpAny_pure ?_)
  refine wpAny_bind (wpAny_pure ?_)
  refine wpIteN (by simp) ?_
  have eb : ([a.arg].filterMap fun n => ([(a.arg, x)].lookup n).map fun z => (n, z)) = [(a.arg, x)] := by simp [List.lookup]
  refine wpAny_bind (wpAny_newTuple (items := vs) ?_ hz)
  refine wpAny_pure ?_
  show Q (([a.arg].filterMap fun n => ([(a.arg, x)].lookup n).map fun z => (n, z)) ++ [(r.arg, _)]) _
  rw [eb]
  exact h
theorem bindStar2 {fd : FuncData} {a b r : Arg} {x y : Value} {vs : List Value} {Q : List (Str × Value) → Shared → Prop}
    (hab : (b.arg == a.arg) = false) (hp : fd.params = { posonlyargs := [], args := [a, b], vararg := some r, kwonlyargs := [], kw_defaults := [], kwarg := none, defaults := [] }) (hd : fd.defaults = .none)
    (hz : vs.length ≤ sizeLine) (h : Q [(a.arg, x), (b.arg, y), (r.arg, .ref s.heap.objs.size)] { s with heap := s.heap.push (tupObj vs) }) :
    wpAny M A (bindArgs fd ⟨x :: y :: vs, []⟩) Q E s := by
  obtain ⟨f1, f2, f3, f4, f5, f6, f7, f8, f9, f10, f11, f12, f13, f14, f15⟩ := fd
  dsimp only at hp hd
  subst hp hd
  have b1 : (a.arg == a.arg) = true := beq_self_eq_true _
  refine wpAny_bind (wpAny_pure (wpAny_bind (wpAny_bind ?_)))
  show wpAny M A (pure ()) _ _ _
  refine wpAny_pure (wpAny_pure ?_)
  refine wpIteN (by simp) ?_
  refine wpIteN (by simp [hab, List.lookup]) ?_
  refine wpAny_bind (wpAny_pure ?_)
  refine wpAny_bind (wpAny_pure ?_)
  refine wpIteN (by simp) ?_
  have eb : ([a.arg, b.arg].filterMap fun n => ([(a.arg, x), (b.arg, y)].lookup n).map fun z => (n, z)) = [(a.arg, x), (b.arg, y)] := by simp [List.lookup, hab]
  refine wpAny_bind (wpAny_newTuple (items := vs) ?_ hz)
  refine wpAny_pure ?_
  show Q (([a.arg, b.arg].filterMap fun n => ([(a.arg, x), (b.arg, y)].lookup n).map fun z => (n, z)) ++ [(r.arg, _)]) _
  rw [eb]
  exact h
end
section
variable {w : World} {A : Around} {s : Shared} {W : List (Addr × Obj)} {R : Result → Shared → Prop} {name qual : Str} {params : Arguments} {body : List Stmt} {scope : Scope} {dV kV doc pm cdv ct oc : Value} {an od : Option Addr} {osl : Array (Option Value)} {f : Addr} {args : Args} {binds : Addr → List (Str × Value)} {vs : List Value}

/-- a call of a def with a starred parameter -/
theorem enterS (W : List (Addr × Obj))
    (ho : (hd.heap_39 w.params).lookup f = some ⟨oc, od, .func (fnOf name qual params body scope dV kV doc pm an cdv ct), osl⟩)
    (B : Bs w (hideAll s.heap (W.map (·.1)))) (N : ∀ p ∈ W, s.heap.get? p.1 = some p.2) (nd : Nod W)
    (hcd : codeIn (hd.heap_39 w.params) cdv qual = true) (hroom : A.depth < recursionLimit)
    (hbind : ∀ (M : Model) (A : Around) (E : Value → Shared → Prop) (Q : List (Str × Value) → Shared → Prop), Q (binds s.heap.objs.size) { s with heap := s.heap.push (tupObj vs) } → wpAny M A (bindArgs (fnOf name qual params body scope dV kV doc pm an cdv ct) args) Q E s)
    (hloc : ∀ D, ∀ y ∈ binds D, scope.names.lookup y.1 = some .local)
    (h : ∀ D L h₁, Fr (hideAll s.heap (W.map (·.1))) L h₁ (fun y => (binds D).reverse.lookup y) → News (hideAll s.heap (W.map (·.1))) L h₁ ((D, tupObj vs) :: W) → Nod ((D, tupObj vs) :: W) →
      wpAny (model Challenge.pw_ij0208_01 w) (A.deeper (envOf qual scope L f cdv)) (execs body (envOf qual scope L f cdv))
        (fun fl s' => R (.ok (.ret (match fl with | .ret v => v | _ => .none))) s')
        (fun e s' => wpAny (model Challenge.pw_ij0208_01 w) (A.deeper (envOf qual scope L f cdv)) (leaving (envOf qual scope L f cdv) e) (fun _ s'' => R (.error e) s'') (fun e' s'' => R (.error e') s'') s')
        { s with heap := h₁, toks := s.toks + (binds D).length })
    (hco : scope.isCoroutine = false := by rfl) (hgen : scope.isGenerator = false := by rfl) (hk : scope.kind = .function := by rfl)
    (hcell : ∀ x ∈ scope.names, x.2 ≠ .cell := by decide) : codeAny (model Challenge.pw_ij0208_01 w) A (.call (.ref f) args) R s := by
  have st : (hideAll s.heap (W.map (·.1))).StaysIn s.heap := fun b o e => of_hideAll _ e
  have B' := B.keeps st
  have k1 : ∀ b o, s.heap.get? b = some o → (s.heap.push (tupObj vs)).get? b = some o := fun b o e => Heap.get?_push_of_some _ e
  have B'' : Bs w (s.heap.push (tupObj vs)) := B'.keeps k1
  refine codeAny_call_function (fd := fnOf name qual params body scope dV kV doc pm an cdv ct) (body := body) hroom (B'.X _ _ ho) rfl hco hgen rfl (codeRec_of B'.X hcd) ?_
  refine hbind _ _ _ _ ?_
  refine wpAny_newFunctionEnv hcell (hloc _) (fun h₁ hns hsb => ⟨(B''.nolimit).fresh _ hsb, codeAny_func ?_⟩) hk
  have hk₁ : ∀ b o, (s.heap.push (tupObj vs)).get? b = some o → h₁.get? b = some o := fun b o e => hsb.extBut b o (Nat.ne_of_lt (Heap.lt_size e)) (Heap.get?_push_of_some _ e)
  have hsz : (s.heap.push (tupObj vs)).objs.size = s.heap.objs.size + 1 := Heap.size_push ..
  refine h s.heap.objs.size (s.heap.push (tupObj vs)).objs.size h₁ ⟨hns, fun b o e => hk₁ _ _ (k1 _ _ (of_hideAll _ e)), ?_⟩ (fun p hp => ?_) (nodCons nd fun p hp => Heap.lt_size (N p hp))
  · rw [hideAll_size, hsz]; exact Nat.le_succ _
  · rcases List.mem_cons.mp hp with rfl | hp
    · refine ⟨hk₁ _ _ (Heap.get?_push_size _ rfl), by rw [hsz]; exact Nat.ne_of_lt (Nat.lt_succ_self _), ?_⟩
      cases q : (hideAll s.heap (W.map (·.1))).get? s.heap.objs.size with
      | none => rfl
      | some o => exact absurd (Heap.lt_size (of_hideAll _ q)) (Nat.lt_irrefl _)
    · exact ⟨hk₁ _ _ (k1 _ _ (N p hp)), Nat.ne_of_lt (Heap.lt_size (k1 _ _ (N p hp))), hideAll_none _ (List.mem_map_of_mem hp)⟩
end

end
section
def upf (f : Int → Int) (k v : Int) : Int → Int := fun x => if x = k then v else f x
def relax (st : (Int → Int) × List Int) (t : Int) : (Int → Int) × List Int := (upf st.1 t (st.1 t - 1), if st.1 t - 1 = 0 then st.2 ++ [t] else st.2)
def doneOne (sc : Int → List Int) (st : (Int → Int) × List Int) (g : Int) : (Int → Int) × List Int := (sc g).foldl relax (upf st.1 g (-2), st.2)
def doneAll (sc : Int → List Int) (gs : List Int) (st : (Int → Int) × List Int) : (Int → Int) × List Int := gs.foldl (doneOne sc) st
theorem take_foldl {α β : Type} (f : β → α → β) (b : β) {l : List α} {i : Nat} {x : α} (h : l[i]? = some x) : (l.take (i + 1)).foldl f b = f ((l.take i).foldl f b) x := by
  rw [List.take_add_one, h, Option.toList_some, List.foldl_append]; rfl
section
variable {l : List Nd} {j : Nat} {d : Nd} {v : Int} {t : Nat}
theorem mem_set_a (h : l[j]? = some d) : (d.a, nodeObj d.da d.key d.nt v t d.sa) ∈ famOf (l.set j { d with np := v, pt := t }) :=
  mem_fam_a (d := { d with np := v, pt := t }) (getSet h)
theorem mem_set_d (h : l[j]? = some d) : (d.da, dictOf [] 0) ∈ famOf (l.set j { d with np := v, pt := t }) :=
  mem_fam_d (d := { d with np := v, pt := t }) (getSet h)
theorem mem_set_s (h : l[j]? = some d) : (d.sa, d.list) ∈ famOf (l.set j { d with np := v, pt := t }) :=
  mem_fam_s (d := { d with np := v, pt := t }) (getSet h)
end

end
section
section
variable {g h h' : Heap} {L : Addr} {m : Str → Option Value} {W FS : List (Addr × Obj)} {outer : List Env}
theorem frNone (F : Fr g L h m) : g.get? L = none := by
  cases e : g.get? L with
  | none => rfl
  | some o => exact absurd (Nat.lt_of_lt_of_le (Heap.lt_size e) F.above) (Nat.lt_irrefl _)
theorem noiseFr (F : Fr g L h m) (N : News g L h (W ++ FS)) (nd : Nod (W ++ FS)) (hF : FrOf outer FS) (z : Noise (L :: FS.map (·.1)) h h') :
    ∃ FS', SlotEq FS FS' ∧ Fr g L h' m ∧ News g L h' (W ++ FS') ∧ Nod (W ++ FS') := by
  obtain ⟨FS', h1, h2⟩ := z.slotEq hF fun p hp => (N p (List.mem_append_right _ hp)).1
  have notF : ∀ b o, g.get? b = some o → b ∉ L :: FS.map (·.1) := fun b o e hb => by
    rcases List.mem_cons.mp hb with rfl | hb
    · rw [frNone F] at e; cases e
    · obtain ⟨p, hp, rfl⟩ := List.mem_map.mp hb
      rw [(N p (List.mem_append_right _ hp)).2.2] at e; cases e
  have nd' := nd
  unfold Nod at nd'
  rw [List.map_append, List.nodup_append] at nd'
  obtain ⟨oL, es, ep, hL, hd, r⟩ := F.ns
  obtain ⟨sl, hs⟩ := z.fr L oL hL fun vs q => by rw [hd] at q; cases q
  refine ⟨FS', h1, ⟨⟨_, es, ep, hs, hd, r⟩, fun b o e => z.keep b (notF b o e) o (F.keep b o e), F.above⟩, fun p hp => ?_, nd.of_map (by rw [List.map_append, List.map_append, h1.adr])⟩
  rcases List.mem_append.mp hp with hp | hp
  · have q := N p (List.mem_append_left _ hp)
    refine ⟨z.keep p.1 (fun hb => ?_) _ q.1, q.2⟩
    rcases List.mem_cons.mp hb with e | hb
    · exact q.2.1 e
    · exact nd'.2.2 p.1 (List.mem_map_of_mem (f := (·.1)) hp) p.1 hb rfl
  · refine ⟨h2 p hp, ?_⟩
    have : p.1 ∈ FS.map (·.1) := by rw [← h1.adr]; exact List.mem_map_of_mem (f := (·.1)) hp
    obtain ⟨q, hq, e⟩ := List.mem_map.mp this
    rw [← e]
    exact (N q (List.mem_append_right _ hq)).2
theorem noiseOut (F : Fr g L h m) (N : News g L h (W ++ FS)) (nd : Nod (W ++ FS)) (hF : FrOf outer FS) (z : Noise (L :: FS.map (·.1)) h h') :
    ∃ FS', SlotEq FS FS' ∧ Out g (W ++ FS') h' := by
  obtain ⟨FS', h1, F', N', nd'⟩ := noiseFr F N nd hF z
  exact ⟨FS', h1, Out.of F' N' nd'⟩
theorem frObj (F : Fr g L h m) : ∃ oL, h.get? L = some oL ∧ ∀ vs, oL.data ≠ .fields vs := by
  obtain ⟨oL, es, ep, hL, hd, r⟩ := F.ns
  exact ⟨oL, hL, fun vs q => by rw [hd] at q; cases q⟩
end

end
section
theorem gnStop (w : World) : nsIn (hd.heap_39 w.params) mainGlobals (Str.ofString "StopIteration") = some none := by kernel_rfl
theorem exc_stop : isSubtype (.type "StopIteration") (.type "BaseException") = pure true := by rw [isSubtype_type]; kernel_rfl
theorem nt_stop : isSubtype (.type ((Manifest.find? "StopIteration").elim "type" fun y => y.metatype)) (.type "tuple") = pure false := by
  rw [show ((Manifest.find? "StopIteration").elim "type" fun x => x.metatype) = "type" from by kernel_rfl, isSubtype_type]; kernel_rfl
section
variable {w : World} {A : Around} {E : Value → Shared → Prop} {s' : Shared} {g h : Heap} {outer : List Env} {L a e : Addr} {m : Str → Option Value} {name : Str} {scope : Scope} {cd : Value}
  {b₀ : Stmt} {suite : List Stmt} {pos np : Pos} {rest : List ExceptHandler} {Q : Flow → Shared → Prop} {W FS : List (Addr × Obj)}
theorem caughtHere (hA : A.frames = some outer) (F : Fr g L h m) (B : Bs w g) (N : News g L h (W ++ FS)) (nd : Nod (W ++ FS)) (hF : FrOf outer FS) (hx : Heap.NewExc h s'.heap e "StopIteration")
    (k : ∀ h' FS', SlotEq FS FS' → Fr g L h' m → News g L h' (W ++ FS') → Nod (W ++ FS') →
      wpAny (model Challenge.pw_ij0208_01 w) ((A.deeper (envOf name scope L a cd)).mark (some (.ref e))) (execs (b₀ :: suite) (envOf name scope L a cd)) Q E { s' with heap := h' })
    (hk : scope.kind = .function := by rfl) (hxk : (envOf name scope L a cd).kindOf (Str.ofString "StopIteration") = some .globalImplicit := by rfl)
    (hE : PassesOwnAt (model Challenge.pw_ij0208_01 w) ((A.deeper (envOf name scope L a cd)).mark (some (.ref e))) (A.deeper (envOf name scope L a cd)) (envOf name scope L a cd) E := by passes_own) :
    wpAny (model Challenge.pw_ij0208_01 w) (A.deeper (envOf name scope L a cd)) (noteFrame (.ref e) (envOf name scope L a cd))
      (fun _ s₂ => wpAny (model Challenge.pw_ij0208_01 w) (A.deeper (envOf name scope L a cd)) (setFlight (.ref e) none) (fun _ s₃ =>
        wpAny (model Challenge.pw_ij0208_01 w) (A.deeper (envOf name scope L a cd)) (handleBy (.ref e) (envOf name scope L a cd) (.ExceptHandler (some (.Name (Str.ofString "StopIteration") np)) none (b₀ :: suite) pos :: rest)) Q E s₃) E s₂) E s' := by
  obtain ⟨ob, tp, he, hcls, hd⟩ := hx.there
  obtain ⟨oL, hoL, hoLd⟩ := frObj F
  have hn : ∀ b ∈ L :: FS.map (·.1), (hideAll h (L :: FS.map (·.1))).get? b = none := fun b hb => hideAll_none _ hb
  have hFS : FrOf (envOf name scope L a cd :: outer) ((L, oL) :: FS) := ⟨by show scope.kind ≠ .module; rw [hk]; decide, rfl, hoLd, hF⟩
  have hin' : ∀ p ∈ (L, oL) :: FS, s'.heap.get? p.1 = some p.2 := fun p hp => by
    rcases List.mem_cons.mp hp with rfl | hp
    · exact hx.keeps _ _ hoL
    · exact hx.keeps _ _ (N p (List.mem_append_right _ hp)).1
  have hen : (hideAll h (L :: FS.map (·.1))).get? e = none := by
    cases q : (hideAll h (L :: FS.map (·.1))).get? e with
    | none => rfl
    | some o => have := of_hideAll _ q; rw [hx.new] at this; cases this
  have hfr : (A.deeper (envOf name scope L a cd)).frames = some (envOf name scope L a cd :: outer) := Around.frames_deeper hA
  have noise : ∀ h', (hideAll h (L :: FS.map (·.1))).StaysIn h' → s'.heap.UpToSlots h' → Noise (L :: FS.map (·.1)) h h' := fun h' k1 k4 =>
    ⟨fun b hb o e' => k1 _ _ (hideAll_get _ e' hb), fun b o e' hnf => k4 b o (hx.keeps _ _ e') hnf⟩
  unfold noteFrame
  simp only [show (envOf name scope L a cd).frame = some L from rfl]
  refine wpAny_bind (wpAny_field he hd (x := .none) rfl ?_)
  rw [if_neg (by decide)]
  refine wpAny_entryW (base := hideAll h (L :: FS.map (·.1))) hfr (FrOf.fun hFS hin' fun p hp => hn _ (List.mem_map_of_mem (f := (·.1)) hp)) rfl he (fun b o hb => hx.keeps b o (of_hideAll _ hb)) hen hd (by simp) (a0 := tp) rfl fun h₁ hN => ?_
  obtain ⟨k1, k2, k3, k4⟩ := hN
  refine wpAny_landsW (l := envOf name scope L a cd :: outer) (L := L) (cls := ob.cls) (a0 := tp) ⟨k1, hen, k2, k3⟩ fun h₂ hf₂ u₂ => ?_
  have u2 : s'.heap.UpToSlots h₂ := Heap.UpToSlots.trans k4 u₂
  obtain ⟨FS₂, _, F₂, _, _⟩ := noiseFr F N nd hF (noise h₂ hf₂.1 u2)
  obtain ⟨oe, hoe, hoec⟩ := hf₂.there
  refine wpAny_handleBy_builtin (X := "StopIteration") (T := "StopIteration") (b := true) exc_stop nt_stop isSubtype_stop ?_
  refine bname F₂ B (gnStop w) (by kernel_rfl) (by decide) ⟨rfl, ⟨oe, hoe, hoec.trans hcls⟩, ?_⟩ hk hxk
  rw [if_pos rfl]
  refine lands_againW hf₂ fun h₃ hf₃ u₃ => ?_
  obtain ⟨FS₃, hs₃, F₃, N₃, nd₃⟩ := noiseFr F N nd hF (noise h₃ hf₃.1 (u2.trans u₃))
  exact wpAny_passesOwnAt hE (k h₃ FS₃ hs₃ F₃ N₃ nd₃)
end
section
variable {prog : Program} {w : World} {A : Around} {E : Value → Shared → Prop} {s : Shared}
theorem itemLast {value slice : PySem.Expr} {l : Addr} {items : Array Value} {u : Tok} {x : Value} {Q : Value → Shared → Prop} (hl : s.heap.IsList l items)
    (h1 : 0 < items.size) (hx : items[items.size - 1]? = some x) (h : Q x s)
    (hs : subscripted slice false (.ref l) (.int (-1) u) = operate [.ref l, .int (-1) u] (getItem (.ref l) (.int (-1) u)) := by with_unfolding_all rfl) (hg : ∀ r, letTemporaryGo value (.ref l) r = pure () := by intro _; with_unfolding_all rfl) :
    wpAny (model prog w) A (subscriptTail value slice (.ref l) (.int (-1) u)) Q E s :=
  subscriptTail_builtin hl.typeIs slot_list_getitem.lookup (wpAny_getItem_list_neg hl (by decide) (by omega) (by decide) (by rw [show ((-1 : Int) + items.size).toNat = items.size - 1 by omega]; exact hx) h) hs hg
end

end
section
section
variable {prog : Program} {w : World} {A : Around} {E : Value → Shared → Prop} {s : Shared} {g : Heap} {L it l u : Addr} {m : Str → Option Value} {news news' : List (Addr × Obj)} {items : Array Value} {n i : Nat} {x : Value}
theorem iterB {Q : Value → Shared → Prop} (F : Fr g L s.heap m) (N : News g L s.heap news) (nd : Nod news) (hl : s.heap.get? l = some (listOf items n))
    (h : ∀ I h', Fr g L h' m → News g L h' ((I, liObj l 0) :: news) → Nod ((I, liObj l 0) :: news) → Q (.ref I) { s with heap := h' }) :
    wpAny (model prog w) A (call (.builtin "iter") [.ref l]) Q E s := by
  refine call_function_entry (by decide +kernel) (by decide +kernel) kdk_entry_iter (kdk_args_iter _) ?_
  unfold Builtin.«iter»
  refine wpAny_bind (m := someArgs "iter" 1 2 _) (wpAny_of_eq (a := [Value.ref l]) (by first | rfl | kernel_rfl) ?_)
  show wpAny _ _ (pyIter (.ref l) >>= _) _ _ _
  refine wpAny_bind (wpAny_pyIter_list (isListH hl) ?_)
  exact wpAny_pure ⟨_, rfl, h _ _ (F.push _) (News.push F N _ rfl) (nodCons nd fun q hq => Heap.lt_size (N q hq).1)⟩
theorem nextB_item {Q : Value → Shared → Prop} (F : Fr g L s.heap m) (N : News g L s.heap news) (nd : Nod news) (U : Upd it (liObj l i) (liObj l (i + 1)) news news') (hl : s.heap.get? l = some (listOf items n)) (hx : items[i]? = some x)
    (h : ∀ h', Fr g L h' m → News g L h' news' → Nod news' → Q x { s with heap := h' }) :
    wpAny (model prog w) A (call (.builtin "next") [.ref it]) Q E s := by
  have nd' := nod_upd U nd
  obtain ⟨pre, post, rfl, rfl, a, b⟩ := U.split
  have hm := N (it, liObj l i) (List.mem_append_right _ (.head _))
  refine call_function_entry (by decide +kernel) (by decide +kernel) kdk_entry_next (kdk_args_next _) ?_
  unfold Builtin.«next»
  refine wpAny_bind (m := someArgs "next" 1 2 _) (wpAny_of_eq (a := [Value.ref it]) (by first | rfl | kernel_rfl) ?_)
  dsimp only
  have hT : s.TypeIs (.ref it) "list_iterator" := ⟨_, hm.1, rfl⟩
  refine wpAny_bind (wpAny_specialOf (name := Str.ofString "__next__") hT slot_listiter_next.lookup ?_)
  refine wpAny_ite_split (fun hab => absurd hab (by decide)) (fun _ => ?_)
  refine wpAny_bind (wpAny_callSpecial?_slot (name := Str.ofString "__next__") hT slot_listiter_next
    (wpAny_call_entry slot_listiter_next hT entry_listiter_next (li_item hm.1 hl hx fun h' e hs => ?_) (args_listiter_next _)))
  exact wpAny_pure ⟨_, rfl, h h' (F.change hs hm.2.1 hm.2.2) (N.setIn a b hs e) nd'⟩
theorem nextB_stop {Q : Value → Shared → Prop} (hh : A.handled = none) (F : Fr g L s.heap m) (N : News g L s.heap news) (nd : Nod news) (U : Upd it (liObj l i) (liDone i) news news') (hl : s.heap.get? l = some (listOf items n)) (hx : items[i]? = none)
    (h : ∀ h₁ h' e, Fr g L h₁ m → News g L h₁ news' → Nod news' → Heap.NewExc h₁ h' e "StopIteration" → E (.ref e) { s with heap := h' }) :
    wpAny (model prog w) A (call (.builtin "next") [.ref it]) Q E s := by
  have nd' := nod_upd U nd
  obtain ⟨pre, post, rfl, rfl, a, b⟩ := U.split
  have hm := N (it, liObj l i) (List.mem_append_right _ (.head _))
  refine call_function_entry (by decide +kernel) (by decide +kernel) kdk_entry_next (kdk_args_next _) ?_
  unfold Builtin.«next»
  refine wpAny_bind (m := someArgs "next" 1 2 _) (wpAny_of_eq (a := [Value.ref it]) (by first | rfl | kernel_rfl) ?_)
  dsimp only
  have hT : s.TypeIs (.ref it) "list_iterator" := ⟨_, hm.1, rfl⟩
  refine wpAny_bind (wpAny_specialOf (name := Str.ofString "__next__") hT slot_listiter_next.lookup ?_)
  refine wpAny_ite_split (fun hab => absurd hab (by decide)) (fun _ => ?_)
  refine wpAny_bind (wpAny_callSpecial?_slot (name := Str.ofString "__next__") hT slot_listiter_next
    (wpAny_call_entry slot_listiter_next hT entry_listiter_next (li_stop hh hm.1 hl hx fun h₁ h' e e1 hs hx => ?_) (args_listiter_next _)))
  exact h h₁ h' e (F.change hs hm.2.1 hm.2.2) (N.setIn a b hs e1) nd' hx
theorem call_wrap {id : String} {b : Builtin} {args : List Value} {a : Addr} {Q : Value → Shared → Prop} (ho : s.heap.get? u = some (wrapObj id a))
    (hc : checkBoundCall id ⟨.ref a :: args, []⟩ = pure ()) (hq : ∀ as : Args, (Code.builtin id as).quiet = true) (hp : plainId id = true) (he : entryFor table id = some b)
    (h : wpAny (model prog w) A.in1 (b ⟨.ref a :: args, []⟩) (fun fin s' => ∃ v, fin = .done (.ret v) ∧ Q v s') E s) : wpAny (model prog w) A (call (.ref u) args) Q E s := by
  refine wpAny_call (codeAny_of_tree ?_)
  show wpAny _ A.in1 (callAny (.ref u) ⟨args, []⟩) _ _ s
  simp only [callAny]
  refine wpAny_bind (wpAny_load ho ?_)
  simp only [show (Value.type "method-wrapper" == Value.type "method" || Value.type "method-wrapper" == Value.type "builtin_function_or_method" || Value.type "method-wrapper" == Value.type "method-wrapper") = true by decide]
  rw [if_pos trivial]
  refine KFB.if_so (by decide) ?_
  refine wpAny_bind (wpAny_of_eq (a := ()) hc ?_)
  refine wpAny_bind (wpAny_pure (wpAny_pure ?_))
  refine ⟨hq _, codeAny_builtin he ?_⟩
  rw [Around.under_plainId hp _]
  refine wpAny_mono h (fun fin s' z => ?_) fun _ _ z => z
  obtain ⟨v, rfl, z⟩ := z
  exact z
end

end
section
theorem slot_li_ga : Slot "list_iterator" "__getattribute__" "object.__getattribute__" :=
  .of (owner := "object") (n := "__getattribute__") (by rw [typeLookup_type, builtinLookup_eq_fast]; kernel_rfl) (by decide +kernel) (by decide +kernel) (by decide +kernel)
    (by first | exact .inl (by decide +kernel) | exact .inr (by decide +kernel)) (by rw [isSubtype_type]; kernel_rfl)
theorem li_getattr_none : typeLookup (.type "list_iterator") "__getattr__" = pure none := by rw [typeLookup_type, builtinLookup_eq_fast]; kernel_rfl
theorem entry_oga : entryFor table "object.__getattribute__" = some Builtin.«object.__getattribute__» := by first | exact entryFor_of_tree (by kernel_rfl) | exact entryFor_of_fast (by kernel_rfl)
theorem args_oga (a b : Value) : argsOk "object.__getattribute__" ⟨[a, b], []⟩ := by unfold argsOk; kernel_rfl
theorem sub_li_li : isSubtype (.type "list_iterator") (.type "list_iterator") = pure true := by rw [isSubtype_type]; kernel_rfl
theorem type_lin : typeOf (.builtin "list_iterator.__next__") = pure (.type "wrapper_descriptor") := by show builtinType _ = _; rw [builtinType_eq_fast]; kernel_rfl
section
variable {M : Model} {A : Around} {E : Value → Shared → Prop} {s : Shared}
theorem run_wgetN {P : Fin → Shared → Prop} {a l : Addr} {k : Nat} (hx : s.heap.get? a = some (liObj l k)) (h : P (.done (.ret (.ref s.heap.objs.size))) { s with heap := s.heap.push (wrapObj "list_iterator.__next__" a) }) :
    wpAny M A (Builtin.«wrapper_descriptor.__get__» ⟨[.builtin "list_iterator.__next__", .ref a, .type "list_iterator"], []⟩) P E s := by
  have hT : s.TypeIs (.ref a) "list_iterator" := ⟨_, hx, rfl⟩
  unfold Builtin.«wrapper_descriptor.__get__»
  refine wpAny_bind (wpAny_of_eq (a := (.builtin "list_iterator.__next__", some (.ref a), some (.type "list_iterator"))) (by first | rfl | kernel_rfl) ?_)
  with_unfolding_all refine wpAny_bind ?_
  with_unfolding_all refine wpAny_bind (wpAny_of_eq (a := (Str.ofString "__next__", .type "list_iterator")) (by first | rfl | kernel_rfl) ?_)
  dsimp only
  refine wpAny_bind (wpAny_isInstance hT sub_li_li ?_)
  refine wpAny_pure ?_
  exact wpAny_bind (wpAny_newObj_type (wpAny_pure h))
end
theorem lt_linext : typeLookup (.type "list_iterator") (Str.ofString "__next__") = pure (some (.builtin "list_iterator.__next__")) := by rw [typeLookup_type, builtinLookup_eq_fast]; kernel_rfl
theorem bk_linext : builtinKind "list_iterator.__next__" = some .slot := by decide +kernel
theorem ga_linext (a l : Addr) (k : Nat) (u : Tok) :
    Meets (Builtin.«object.__getattribute__» ⟨[.ref a, .str (Str.ofString "__next__") u], []⟩) (fun A R s => s.heap.get? a = some (liObj l k) ∧ R (.ok (.ret (.ref s.heap.objs.size))) { s with heap := s.heap.push (wrapObj "list_iterator.__next__" a) }) :=
  Meets.of_wp fun prog w A R s hs => by
    obtain ⟨hp, g, d, tk, os⟩ := s
    obtain ⟨hx, hs⟩ := hs
    have hT : (⟨hp, g, d, tk, os⟩ : Shared).TypeIs (.ref a) "list_iterator" := ⟨_, hx, rfl⟩
    have f1 := lt_linext
    have f2 := lt_wget
    have f3 := lt_wset
    have f4 := lt_wdel
    unfold Builtin.«object.__getattribute__»
    repeat (any_goals (first | assumption | (simp only [bk_linext]) | wp_step))
    refine codeAny_call_builtin slot_wget.plain entry_wget (slot_wget.check _ _ _ _ _ _ _ _ type_lin (args_wget _ _ _) (run_wgetN hx ?_))
    exact wpAny_pure ⟨_, rfl, hs⟩
theorem getAttr_linext {prog : Program} {w : World} {A : Around} {E : Value → Shared → Prop} {s : Shared} {a l : Addr} {k : Nat} {Q : Value → Shared → Prop} {ex : Bool}
    (hx : s.heap.get? a = some (liObj l k))
    (h : Q (.ref s.heap.objs.size) { s with heap := s.heap.push (wrapObj "list_iterator.__next__" a), toks := s.toks + 1 }) :
    wpAny (model prog w) A (getAttr (.ref a) (Str.ofString "__next__") ex) Q E s := by
  obtain ⟨hp, g, d, tk, os⟩ := s
  have hT : ∀ tk', (⟨hp, g, d, tk', os⟩ : Shared).TypeIs (.ref a) "list_iterator" := fun _ => ⟨_, hx, rfl⟩
  have f3 := slot_li_ga.lookup
  have f4 := slot_li_ga.bind (.ref a)
  have f5 := li_getattr_none
  unfold getAttr getAttrBy
  repeat (any_goals (first | assumption | exact hT _ | wp_step))
  rw [if_neg (by cases ex <;> decide)]
  repeat (any_goals (first | assumption | exact hT _ | ((with_reducible show wpAny _ _ (call (Value.builtin "object.__getattribute__") _ _) _ _ _); refine call_meets slot_li_ga (hT _) entry_oga (args_oga _ _) (ga_linext a l k _) ⟨hx, ?_⟩) | wp_step))
  show wpAny (model prog w) A (handedOut _) Q E _
  unfold handedOut
  repeat (any_goals (first | assumption | wp_step))
section
variable {prog : Program} {w : World} {A : Around} {E : Value → Shared → Prop} {s : Shared} {g : Heap} {L it l u : Addr} {m : Str → Option Value} {news news' : List (Addr × Obj)} {items : Array Value} {n i : Nat} {x : Value}
theorem gaNextF {ex : Bool} {Q : Value → Shared → Prop} (F : Fr g L s.heap m) (N : News g L s.heap news) (nd : Nod news) (hl : s.heap.get? it = some (liObj l i))
    (h : ∀ u h', Fr g L h' m → News g L h' ((u, wrapObj "list_iterator.__next__" it) :: news) → Nod ((u, wrapObj "list_iterator.__next__" it) :: news) → Q (.ref u) { s with heap := h', toks := s.toks + 1 }) :
    wpAny (model prog w) A (getAttr (.ref it) (Str.ofString "__next__") ex) Q E s :=
  getAttr_linext hl (h _ _ (F.push _) (News.push F N _ rfl) (nodCons nd fun q hq => Heap.lt_size (N q hq).1))
theorem check_lin {it : Addr} : checkBoundCall "list_iterator.__next__" ⟨[.ref it], []⟩ = pure () := by first | kernel_rfl | rfl
theorem plain_lin : plainId "list_iterator.__next__" = true := by decide +kernel
theorem wrapN_item {Q : Value → Shared → Prop} (F : Fr g L s.heap m) (N : News g L s.heap news) (nd : Nod news) (ho : s.heap.get? u = some (wrapObj "list_iterator.__next__" it)) (U : Upd it (liObj l i) (liObj l (i + 1)) news news') (hl : s.heap.get? l = some (listOf items n)) (hx : items[i]? = some x)
    (h : ∀ h', Fr g L h' m → News g L h' news' → Nod news' → Q x { s with heap := h' }) :
    wpAny (model prog w) A (call (.ref u) []) Q E s := by
  have nd' := nod_upd U nd
  obtain ⟨pre, post, rfl, rfl, a, b⟩ := U.split
  have hm := N (it, liObj l i) (List.mem_append_right _ (.head _))
  exact call_wrap ho check_lin (fun as => Code.quiet_builtin _ (by decide +kernel)) plain_lin entry_listiter_next (li_item hm.1 hl hx fun h' e hs => h h' (F.change hs hm.2.1 hm.2.2) (N.setIn a b hs e) nd')
theorem wrapN_stop {Q : Value → Shared → Prop} (hh : A.handled = none) (F : Fr g L s.heap m) (N : News g L s.heap news) (nd : Nod news) (ho : s.heap.get? u = some (wrapObj "list_iterator.__next__" it)) (U : Upd it (liObj l i) (liDone i) news news') (hl : s.heap.get? l = some (listOf items n)) (hx : items[i]? = none)
    (h : ∀ h₁ h' e, Fr g L h₁ m → News g L h₁ news' → Nod news' → Heap.NewExc h₁ h' e "StopIteration" → E (.ref e) { s with heap := h' }) :
    wpAny (model prog w) A (call (.ref u) []) Q E s := by
  have nd' := nod_upd U nd
  obtain ⟨pre, post, rfl, rfl, a, b⟩ := U.split
  have hm := N (it, liObj l i) (List.mem_append_right _ (.head _))
  exact call_wrap ho check_lin (fun as => Code.quiet_builtin _ (by decide +kernel)) plain_lin entry_listiter_next (li_stop hh hm.1 hl hx fun h₁ h' e e1 hs hx => h h₁ h' e (F.change hs hm.2.1 hm.2.2) (N.setIn a b hs e1) nd' hx)
end

end
section
section
variable {prog : Program} {w : World} {A : Around} {E : Value → Shared → Prop} {s : Shared} {env : Env} {g : Heap} {x : Str} {body : List Stmt} {Q : Flow → Shared → Prop}
/-- a for over a dict of ints that stands in the ledger or in the base -/
theorem iterD {t : Addr} {od : Obj} {kvs : List (Int × Value)} {m₀ : Str → Option Value} {news : List (Addr × Obj)} (hd : od.IsDictOf (intKind prog w) kvs) (hlo : (t == sysModules) = false)
    (J : Nat → (Str → Option Value) → List (Addr × Obj) → Prop) (hh : A.handled = none)
    (F : Fr g env.locals s.heap m₀) (N : News g env.locals s.heap news) (hnd : Nod news)
    (ht : (∀ i m nw, J i m nw → (t, od) ∈ nw) ∨ g.get? t = some od) (h0 : J 0 m₀ news)
    (turn : ∀ I i (p : Int × Value) tv m nw h tk o, kvs[i]? = some p → (∀ p ∈ news, p.1 < I) → J i m nw → Nod ((I, o) :: nw) → Fr g env.locals h (fun y => if y = x then some (.int p.1 tv) else m y) → News g env.locals h ((I, o) :: nw) →
      wpAny (model prog w) A (execs body env) (TurnJ g env.locals I o (J (i + 1)) { s with heap := h, toks := tk } Q) E { s with heap := h, toks := tk })
    (done : ∀ m nw h tk, J kvs.length m nw → Nod nw → Fr g env.locals h m → News g env.locals h nw → Q .next { s with heap := h, toks := tk }) :
    wpAny (model prog w) A (pyIter (.ref t)) (fun it s₂ => LoopAtV prog w A g env x body Q E it s₂) E s := by
  have hts : s.heap.get? t = some od := by
    rcases ht with ht | ht
    · exact (N _ (ht 0 m₀ news h0)).1
    · exact F.keep _ _ ht
  obtain ⟨ep, ha⟩ := KdkAt.of hd
  have hT := ha.dictAt hts
  have hne : t ≠ s.heap.objs.size := Nat.ne_of_lt (Heap.lt_size hts)
  refine wpAny_pyIter_dict hlo hT ?_
  refine loopJ (s := { s with heap := s.heap.push { cls := .type "dict_keyiterator", data := .fields #[.ref t, .int 0 0, .int kvs.length 0, .int ep 0] } }) J (Walks.dictKeys (prog := prog) (w := w) (knd := intKind prog w) hh s.heap.objs.size t hne kvs ep) (List.mem_cons.mpr (.inl rfl)) ?_ ?_ ?_ (next_is_new F) ?_ (F.push _) (fun p hp => ⟨Heap.get?_push_of_some _ (N p hp).1, (N p hp).2⟩) hnd (fun p hp => Nat.ne_of_lt (Heap.lt_size (N p hp).1)) h0 ?_ done
  · rintro i h ⟨⟨o, ho, _⟩, _⟩; exact ⟨o, ho⟩
  · intro b hb hne'
    rcases List.mem_cons.mp hb with e | hb
    · exact absurd e hne'
    · rw [List.mem_singleton.mp hb]
      refine ⟨od, fun i m nw h hJ hN hg => ?_⟩
      rcases ht with ht | ht
      · exact hN _ (ht i m nw hJ)
      · exact hg _ _ ht
  · intro hm
    rcases List.mem_cons.mp hm with e | hm
    · exact absurd F.ns.lt (e ▸ Nat.lt_irrefl _)
    · have e := List.mem_singleton.mp hm
      rcases ht with ht | ht
      · exact (N _ (ht 0 m₀ news h0)).2.1 e.symm
      · exact absurd (Nat.lt_of_lt_of_le (Heap.lt_size ht) F.above) (e ▸ Nat.lt_irrefl _)
  · exact ⟨⟨_, Heap.get?_push_size _ rfl, rfl, rfl⟩, hT.at' fun o e => Heap.get?_push_of_some _ e⟩
  · rintro i v m nw h tk o hi ⟨k, x', hk, hv⟩ hJ hn F' N'
    obtain ⟨tv, rfl⟩ := PySem.Value.isInt_shape hv
    exact turn _ i (k, x') tv m nw h tk o hk (fun p hp => Heap.lt_size (N p hp).1) hJ hn F' N'
end
section
variable {prog : Program} {w : World} {A : Around} {E : Value → Shared → Prop} {s : Shared} {g : Heap} {L sa D : Addr} {m : Str → Option Value} {news news' : List (Addr × Obj)} {gg : Obj → List (Addr × Obj)} {so : Obj} {S : Int → Bool} {n : Nat} {k : Int} {t : Nat}
theorem newSetF {Q : Value → Shared → Prop} (F : Fr g L s.heap m) (N : News g L s.heap news) (nd : Nod news)
    (h : ∀ Z h' so, so.SetObjOf (intKind prog w) (fun _ => false) 0 → Fr g L h' m → News g L h' ((Z, so) :: news) → Nod ((Z, so) :: news) → Q (.ref Z) { s with heap := h' }) : wpAny (model prog w) A (call (.type "set") []) Q E s :=
  kse_new F N fun Z h' led F' N' lt hs _ => h Z h' _ hs F' N' (nodCons nd lt)
theorem setAddF {Q : Value → Shared → Prop} (F : Fr g L s.heap m) (N : News g L s.heap news) (nd : Nod news) (U : UpdF sa so news gg) (hso : so.SetObjOf (intKind prog w) S n) (hb : n + 1 < scanBound)
    (h : ∀ h' so', so'.SetObjOf (intKind prog w) (fun k' => S k' || decide (k' = k)) (if S k then n else n + 1) → Fr g L h' m → News g L h' (gg so') → Nod (gg so') → Q .none { s with heap := h', toks := s.toks + 1 }) :
    wpAny (model prog w) A (call (.builtin "set.add") [.ref sa, .int k t]) Q E s :=
  kse_add F N U hso hb (intKind_is _ _ _ _) (by rfl) fun h' so' F' N' hs => h h' so' hs F' N' (nod_updF U nd so')
theorem setInF {Q : Value → Shared → Prop} (N : News g L s.heap news) (U : UpdF sa so news gg) (hso : so.SetObjOf (intKind prog w) S n) (hb : n < scanBound) (h : Q (.bool (S k)) { s with toks := s.toks + 1 }) :
    wpAny (model prog w) A (compareOp .In (.int k t) (.ref sa)) Q E s := kse_in N U hso hb (intKind_is _ _ _ _) (by rfl) h
end
section
variable {prog : Program} {w : World} {K : Type} [DecidableEq K] {knd : KeyKind prog w K} {A : Around} {E : Value → Shared → Prop} {s : Shared} {g : Heap} {L sa D : Addr} {m : Str → Option Value} {news : List (Addr × Obj)} {gg : Obj → List (Addr × Obj)} {so o : Obj} {S : Int → Bool} {n : Nat} {kvs : List (K × Value)} {k : K} {key v : Value}
theorem setMethF {pl : Sem Bool} {Q : Value × List Value → Shared → Prop} (N : News g L s.heap news) (U : UpdF sa so news gg) (hso : so.SetObjOf (intKind prog w) S n) (hb : n + 1 < scanBound) (h : Q (.builtin "set.add", [.ref sa]) s) :
    wpAny (model prog w) A (getMethod (.ref sa) "add" pl) Q E s := kse_method N U hso (Nat.lt_of_succ_lt hb) h
theorem dictItemG {value slice : PySem.Expr} {Q : Value → Shared → Prop} (ho : s.heap.get? D = some o) (hd : o.IsDictOf knd kvs) (hkey : knd.is k key = true) (hl : valueAt kvs k = some v) (h : Q v { s with toks := s.toks + 1 })
    (hs : subscripted slice false (.ref D) key = operate [.ref D, key] (getItem (.ref D) key) := by with_unfolding_all rfl) (hg : ∀ r, letTemporaryGo value (.ref D) r = pure () := by intro _; with_unfolding_all rfl) :
    wpAny (model prog w) A (subscriptTail value slice (.ref D) key) Q E s :=
  have hD : s.heap.DictOf knd D kvs := Heap.dictOf_iff.mpr ⟨o, ho, hd⟩
  subscriptTail_builtin hD.typeIs slot_dict_getitem.lookup (wpAny_getItem_of hkey hD.mapOf hl h) hs hg
end

end
section
section
variable (sc : Int → List Int)
def Closed : List Int → Prop
  | [] => True
  | k :: r => (∀ q ∈ sc k, q ∈ r) ∧ Closed r
def rankOf : List Int → Int → Nat
  | [], _ => 0
  | a :: r, k => if k = a then r.length + 1 else rankOf r k
theorem rank_le : ∀ (l : List Int) (k : Int), rankOf l k ≤ l.length
  | [], _ => Nat.le_refl _
  | a :: r, k => by
    unfold rankOf
    split
    · simp
    · have := rank_le r k; simp; omega
variable {sc}
theorem closed_mem : ∀ {l : List Int}, Closed sc l → ∀ {k q : Int}, k ∈ l → q ∈ sc k → q ∈ l
  | a :: r, ⟨h1, h2⟩, k, q, hk, hq => by
    rcases List.mem_cons.mp hk with rfl | hk
    · exact .tail _ (h1 q hq)
    · exact .tail _ (closed_mem h2 hk hq)
theorem closed_rank : ∀ {l : List Int}, Closed sc l → l.Nodup → ∀ {k q : Int}, k ∈ l → q ∈ sc k → rankOf l q < rankOf l k
  | a :: r, ⟨h1, h2⟩, hn, k, q, hk, hq => by
    have hn' := List.nodup_cons.mp hn
    rcases List.mem_cons.mp hk with rfl | hk
    · have hqr := h1 q hq
      have hne : q ≠ k := fun e => hn'.1 (e ▸ hqr)
      unfold rankOf
      rw [if_neg hne, if_pos rfl]
      have := rank_le r q; omega
    · have hka : k ≠ a := fun e => hn'.1 (e ▸ hk)
      have hqr := closed_mem h2 hk hq
      have hqa : q ≠ a := fun e => hn'.1 (e ▸ hqr)
      unfold rankOf
      rw [if_neg hka, if_neg hqa]
      exact closed_rank h2 hn'.2 hk hq
end
/-- all that is consumed is finished -/
def Cons (sc : Int → List Int) (fin : List Int) (v : Int) (p : Nat) : Prop := ∀ j q, j < p → (sc v)[j]? = some q → q ∈ fin
structure DI (sc : Int → List Int) (keys : List Int) (st : Int → Option Nat) (stk fin : List Int) : Prop where
  keyS : ∀ k ∈ stk, k ∈ keys
  keyF : ∀ k ∈ fin, k ∈ keys
  seen : ∀ k, st k ≠ none ↔ k ∈ stk ∨ k ∈ fin
  disj : ∀ k ∈ stk, k ∉ fin
  nodS : stk.Nodup
  nodF : fin.Nodup
  closed : Closed sc fin
  pos : ∀ k ∈ stk, ∃ p, st k = some p ∧ p ≤ (sc k).length
  link : ∀ (i : Nat) (v u : Int), stk[i]? = some v → stk[i + 1]? = some u → ∃ p, st v = some (p + 1) ∧ (sc v)[p]? = some u ∧ Cons sc fin v p
def DA (sc : Int → List Int) (st : Int → Option Nat) (stk fin : List Int) (cur : Int) : Prop :=
  ∀ v, stk.getLast? = some v → ∃ p, st v = some (p + 1) ∧ (sc v)[p]? = some cur ∧ Cons sc fin v p
def DB (sc : Int → List Int) (st : Int → Option Nat) (stk fin : List Int) : Prop :=
  ∀ v, stk.getLast? = some v → ∃ p, st v = some p ∧ Cons sc fin v p
def ust (st : Int → Option Nat) (k : Int) (p : Nat) : Int → Option Nat := fun x => if x = k then some p else st x
def dm (sc : Int → List Int) (st : Int → Option Nat) (k : Int) : Nat := match st k with | none => 1 + (sc k).length | some p => (sc k).length - p
def meas (sc : Int → List Int) (st : Int → Option Nat) (keys : List Int) : Nat := (keys.map (dm sc st)).sum
section
variable {sc : Int → List Int} {keys : List Int} {st : Int → Option Nat} {stk fin : List Int} {cur v : Int} {p : Nat}
theorem meas_lt {st' : Int → Option Nat} : ∀ {l : List Int}, v ∈ l → l.Nodup → dm sc st' v + 1 ≤ dm sc st v → (∀ k ∈ l, k ≠ v → dm sc st' k = dm sc st k) → meas sc st' l + 1 ≤ meas sc st l
  | a :: r, hv, hn, h1, h2 => by
    have hn' := List.nodup_cons.mp hn
    simp only [meas, List.map_cons, List.sum_cons]
    rcases List.mem_cons.mp hv with rfl | hv
    · have e : r.map (dm sc st') = r.map (dm sc st) := List.map_congr_left fun k hk => h2 k (.tail _ hk) fun e => hn'.1 (e ▸ hk)
      rw [e]; omega
    · have := meas_lt hv hn'.2 h1 fun k hk => h2 k (.tail _ hk)
      have e := h2 a (.head _) fun e => hn'.1 (e ▸ hv)
      simp only [meas] at this
      omega
theorem DI.start (hk : ∀ k, st k ≠ none ↔ k ∈ fin) (D : Closed sc fin) (n : fin.Nodup) (kf : ∀ k ∈ fin, k ∈ keys) : DI sc keys st [] fin :=
  ⟨(fun _ h => nomatch h), kf, fun k => by simp [hk k], (fun _ h => nomatch h), List.nodup_nil, n, D, (fun _ h => nomatch h), fun i v u h => by simp at h⟩
theorem ust_self : ust st v p v = some p := if_pos rfl
theorem ust_ne {k : Int} (h : k ≠ v) : ust st v p k = st k := if_neg h
theorem getLast_idx {l : List Int} (h : l.getLast? = some v) : ∃ i, l[i]? = some v ∧ i + 1 = l.length := by
  rw [List.getLast?_eq_getElem?] at h
  have := (List.getElem?_eq_some_iff.mp h).1
  exact ⟨l.length - 1, h, by omega⟩
/-- a node not seen is pushed -/
theorem DI.push (D : DI sc keys st stk fin) (a : DA sc st stk fin cur) (hc : st cur = none) (hk : cur ∈ keys) : DI sc keys (ust st cur 0) (stk ++ [cur]) fin ∧ DB sc (ust st cur 0) (stk ++ [cur]) fin := by
  have hnS : cur ∉ stk := fun h => (D.seen cur).mpr (.inl h) hc
  have hnF : cur ∉ fin := fun h => (D.seen cur).mpr (.inr h) hc
  have keep : ∀ k ∈ stk, ust st cur 0 k = st k := fun k h => ust_ne fun e => hnS (e ▸ h)
  refine ⟨⟨fun k h => ?_, D.keyF, fun k => ?_, fun k h => ?_, ?_, D.nodF, D.closed, fun k h => ?_, fun i v u h1 h2 => ?_⟩, fun v h => ?_⟩
  · rcases List.mem_append.mp h with h | h
    · exact D.keyS k h
    · rw [List.mem_singleton.mp h]; exact hk
  · by_cases e : k = cur
    · subst e; simp [ust_self]
    · rw [ust_ne e, D.seen k]; simp [e]
  · rcases List.mem_append.mp h with h | h
    · exact D.disj k h
    · rw [List.mem_singleton.mp h]; exact hnF
  · rw [List.nodup_append]; exact ⟨D.nodS, by simp, fun x hx y hy e => hnS (by rw [← List.mem_singleton.mp hy, ← e]; exact hx)⟩
  · rcases List.mem_append.mp h with h | h
    · rw [keep k h]; exact D.pos k h
    · rw [List.mem_singleton.mp h]; exact ⟨0, ust_self, Nat.zero_le _⟩
  · rcases Nat.lt_or_ge (i + 1) stk.length with q | q
    · rw [List.getElem?_append_left (by omega)] at h1
      rw [List.getElem?_append_left q] at h2
      obtain ⟨p, e1, e2⟩ := D.link i v u h1 h2
      exact ⟨p, by rw [keep v (List.mem_of_getElem? h1)]; exact e1, e2⟩
    · have hi := (List.getElem?_eq_some_iff.mp h2).1
      rw [List.length_append, List.length_singleton] at hi
      have e : i + 1 = stk.length := by omega
      rw [e, List.getElem?_concat_length] at h2
      cases h2
      rw [List.getElem?_append_left (by omega)] at h1
      have hl : stk.getLast? = some v := by rw [List.getLast?_eq_getElem?]; rw [← h1]; congr 1; omega
      obtain ⟨p, e1, e2⟩ := a v hl
      exact ⟨p, by rw [keep v (List.mem_of_getElem? h1)]; exact e1, e2⟩
  · rw [List.getLast?_concat] at h
    cases h
    exact ⟨0, ust_self, fun j q h => absurd h (Nat.not_lt_zero _)⟩
/-- a node seen that is off the stack is finished -/
theorem DI.skip (D : DI sc keys st stk fin) (a : DA sc st stk fin cur) (hc : st cur ≠ none) (hk : cur ∉ stk) : DB sc st stk fin := fun v h => by
  obtain ⟨p, e1, e2, e3⟩ := a v h
  refine ⟨p + 1, e1, fun j q hj hq => ?_⟩
  rcases Nat.lt_or_ge j p with h | h
  · exact e3 j q h hq
  · obtain rfl : j = p := by omega
    rw [e2] at hq; cases hq
    exact ((D.seen cur).mp hc).resolve_left hk
/-- the next of the top's -/
theorem DI.adv {q : Int} (D : DI sc keys st stk fin) (b : DB sc st stk fin) (hl : stk.getLast? = some v) (hp : st v = some p) (hq : (sc v)[p]? = some q) : DI sc keys (ust st v (p + 1)) stk fin ∧ DA sc (ust st v (p + 1)) stk fin q := by
  have hvS : v ∈ stk := List.mem_of_getLast? hl
  obtain ⟨i0, hi0, hi1⟩ := getLast_idx hl
  have hlt := (List.getElem?_eq_some_iff.mp hq).1
  refine ⟨⟨D.keyS, D.keyF, fun k => ?_, D.disj, D.nodS, D.nodF, D.closed, fun k h => ?_, fun i x u h1 h2 => ?_⟩, fun x h => ?_⟩
  · by_cases e : k = v
    · subst e; simp [ust_self, hvS]
    · rw [ust_ne e]; exact D.seen k
  · by_cases e : k = v
    · subst e; exact ⟨p + 1, ust_self, hlt⟩
    · rw [ust_ne e]; exact D.pos k h
  · have hne : x ≠ v := fun e => by
      subst e
      have := nodup_inj D.nodS h1 hi0
      have := (List.getElem?_eq_some_iff.mp h2).1
      omega
    rw [ust_ne hne]; exact D.link i x u h1 h2
  · rw [hl] at h; cases h
    obtain ⟨p', e1, e2⟩ := b v hl
    rw [hp] at e1; cases e1
    exact ⟨p, ust_self, hq, e2⟩
/-- the top is finished -/
theorem DI.pop (D : DI sc keys st stk fin) (b : DB sc st stk fin) (hl : stk.getLast? = some v) (hp : st v = some p) (hq : (sc v)[p]? = none) : DI sc keys st stk.dropLast (v :: fin) ∧ DB sc st stk.dropLast (v :: fin) := by
  have hvS : v ∈ stk := List.mem_of_getLast? hl
  have hsp : stk = stk.dropLast ++ [v] := by
    obtain ⟨ys, e⟩ := List.getLast?_eq_some_iff.mp hl
    rw [e, List.dropLast_concat]
  obtain ⟨p', e1, e2⟩ := b v hl
  rw [hp] at e1; cases e1
  have hvd : v ∉ stk.dropLast := fun h => by
    have := D.nodS
    rw [hsp, List.nodup_append] at this
    exact this.2.2 v h v (by simp) rfl
  have sub : ∀ {k}, k ∈ stk.dropLast → k ∈ stk := fun h => List.dropLast_subset stk h
  have all : ∀ q ∈ sc v, q ∈ fin := fun q hq' => by
    obtain ⟨j, hj⟩ := List.getElem?_of_mem hq'
    refine e2 j q ?_ hj
    have h1 := (List.getElem?_eq_some_iff.mp hj).1
    have h2 := List.getElem?_eq_none_iff.mp hq
    omega
  have lift : ∀ {x p}, Cons sc fin x p → Cons sc (v :: fin) x p := fun h j q h1 h2 => .tail _ (h j q h1 h2)
  have at' : ∀ i x, stk.dropLast[i]? = some x → stk[i]? = some x := fun i x h => by
    rw [hsp, List.getElem?_append_left (List.getElem?_eq_some_iff.mp h).1]; exact h
  refine ⟨⟨fun k h => D.keyS k (sub h), fun k h => ?_, fun k => ?_, fun k h hm => ?_, (List.dropLast_sublist stk).nodup D.nodS, List.nodup_cons.mpr ⟨D.disj v hvS, D.nodF⟩, ⟨all, D.closed⟩, fun k h => D.pos k (sub h), fun i x u h1 h2 => ?_⟩, fun x h => ?_⟩
  · rcases List.mem_cons.mp h with rfl | h
    · exact D.keyS _ hvS
    · exact D.keyF k h
  · rw [D.seen k]
    constructor
    · rintro (h | h)
      · rw [hsp] at h
        rcases List.mem_append.mp h with h | h
        · exact .inl h
        · exact .inr (by rw [List.mem_singleton.mp h]; exact .head _)
      · exact .inr (.tail _ h)
    · rintro (h | h)
      · exact .inl (sub h)
      · rcases List.mem_cons.mp h with rfl | h
        · exact .inl hvS
        · exact .inr h
  · rcases List.mem_cons.mp hm with rfl | hm
    · exact hvd h
    · exact D.disj k (sub h) hm
  · obtain ⟨p1, a1, a2, a3⟩ := D.link i x u (at' _ _ h1) (at' _ _ h2)
    exact ⟨p1, a1, a2, lift a3⟩
  · obtain ⟨i0, hi0, hi1⟩ := getLast_idx h
    have hv : stk[i0 + 1]? = some v := by
      rw [hsp, hi1]; exact List.getElem?_concat_length
    obtain ⟨p1, a1, a2, a3⟩ := D.link i0 x v (at' _ _ hi0) hv
    refine ⟨p1 + 1, a1, fun j q hj hq' => ?_⟩
    rcases Nat.lt_or_ge j p1 with h | h
    · exact .tail _ (a3 j q h hq')
    · obtain rfl : j = p1 := by omega
      rw [a2] at hq'; cases hq'
      exact .head _
/-- a node met on the stack closes a ring -/
theorem DI.ring (D : DI sc keys st stk fin) (a : DA sc st stk fin cur) (hm : cur ∈ stk) : Relation.TransGen (fun x y => y ∈ sc x) cur cur := by
  obtain ⟨i, hi⟩ := List.getElem?_of_mem hm
  obtain ⟨t, ht⟩ : ∃ t, stk.getLast? = some t := by
    cases e : stk.getLast? with
    | none => rw [List.getLast?_eq_none_iff] at e; rw [e] at hm; cases hm
    | some t => exact ⟨t, rfl⟩
  obtain ⟨i0, hi0, hi1⟩ := getLast_idx ht
  have chain : ∀ n x, stk[i + n]? = some x → x = cur ∨ Relation.TransGen (fun x y => y ∈ sc x) cur x := by
    intro n
    induction n with
    | zero => intro x hx; rw [Nat.add_zero, hi] at hx; cases hx; exact .inl rfl
    | succ n ih =>
      intro x hx
      have hlt := (List.getElem?_eq_some_iff.mp hx).1
      have hy : stk[i + n]? = some stk[i + n] := List.getElem?_eq_getElem (by omega)
      obtain ⟨p1, _, a2, _⟩ := D.link (i + n) _ x hy hx
      have step : x ∈ sc stk[i + n] := List.mem_of_getElem? a2
      rcases ih _ hy with e | e
      · exact .inr (.single (by rw [← e]; exact step))
      · exact .inr (.tail e step)
  obtain ⟨p1, _, a2, _⟩ := a t ht
  have last : cur ∈ sc t := List.mem_of_getElem? a2
  have hlt := (List.getElem?_eq_some_iff.mp hi).1
  have e : i + (i0 - i) = i0 := by omega
  rcases chain (i0 - i) t (by rw [e]; exact hi0) with h | h
  · rw [h] at last; exact .single last
  · exact .tail h last
theorem dm_push (hc : st cur = none) : dm sc (ust st cur 0) cur + 1 ≤ dm sc st cur := by
  unfold dm; rw [ust_self, hc]; simp; omega
theorem dm_adv {q : Int} (hp : st v = some p) (hq : (sc v)[p]? = some q) : dm sc (ust st v (p + 1)) v + 1 ≤ dm sc st v := by
  have := (List.getElem?_eq_some_iff.mp hq).1
  unfold dm; rw [ust_self, hp]; simp; omega
theorem dm_ne {k : Int} (h : k ≠ v) : dm sc (ust st v p) k = dm sc st k := by
  unfold dm; rw [ust_ne h]
end

end
section
structure SE where
  (u it : Addr) (d : Nd) (p kt dt : Nat)
def SE.objs (e : SE) : List (Addr × Obj) := [(e.u, wrapObj "list_iterator.__next__" e.it), (e.it, liObj e.d.sa e.p)]
def famSE (rs : List SE) : List (Addr × Obj) := rs.flatMap SE.objs
def intsSE (rs : List SE) : List Value := rs.reverse.map fun e => .int e.d.key e.kt
def refsSE (rs : List SE) : List Value := rs.reverse.map fun e => .ref e.u
def keysSE (rs : List SE) : List Int := rs.reverse.map fun e => e.d.key
def kvSE : List SE → List (Int × Value)
  | [] => []
  | e :: r => kvSE r ++ [(e.d.key, .int r.length e.dt)]
theorem nod_le : ∀ {l keys : List Int}, l.Nodup → (∀ k ∈ l, k ∈ keys) → l.length ≤ keys.length
  | [], _, _, _ => Nat.zero_le _
  | a :: r, keys, hn, hs => by
    have hn' := List.nodup_cons.mp hn
    have ha := hs a (.head _)
    have := nod_le (l := r) (keys := keys.erase a) hn'.2 fun k hk => (List.mem_erase_of_ne fun (e : k = a) => hn'.1 (e ▸ hk)).mpr (hs k (.tail _ hk))
    rw [List.length_erase_of_mem ha] at this
    have := List.length_pos_of_mem ha
    simp only [List.length_cons]; omega
theorem DI.bound {sc : Int → List Int} {keys : List Int} {st : Int → Option Nat} {stk fin : List Int} (D : DI sc keys st stk fin) : fin.length + stk.length ≤ keys.length := by
  have := nod_le (l := fin ++ stk) (keys := keys) (by rw [List.nodup_append]; exact ⟨D.nodF, D.nodS, fun a ha b hb e => D.disj b hb (e ▸ ha)⟩) fun k hk => (List.mem_append.mp hk).elim (D.keyF k) (D.keyS k)
  simpa using this
theorem kvSE_keys : ∀ rs, (kvSE rs).map (·.1) = keysSE rs
  | [] => rfl
  | e :: r => by simp [kvSE, keysSE, kvSE_keys r]
theorem va_append_none {a : List (Int × Value)} {k : Int} {v : Value} (h : valueAt a k = none) : valueAt (a ++ [(k, v)]) k = some v := by
  unfold valueAt at h ⊢
  rw [Option.map_eq_none_iff] at h
  rw [List.find?_append, h]
  simp
theorem va_append_some {a b : List (Int × Value)} {k : Int} {v : Value} (h : valueAt a k = some v) : valueAt (a ++ b) k = some v := by
  unfold valueAt at h ⊢
  obtain ⟨p, hp, e⟩ := Option.map_eq_some_iff.mp h
  rw [List.find?_append, hp]
  simpa using e
theorem va_notin : ∀ {a : List (Int × Value)} {k : Int}, k ∉ a.map (·.1) → valueAt a k = none := by
  intro a k h
  unfold valueAt
  rw [Option.map_eq_none_iff, List.find?_eq_none]
  intro p hp e
  exact h (List.mem_map.mpr ⟨p, hp, by simpa using e⟩)
theorem kvSE_none {rs : List SE} {k : Int} (h : k ∉ keysSE rs) : valueAt (kvSE rs) k = none := va_notin (by rw [kvSE_keys]; exact h)
theorem kvSE_some : ∀ {rs : List SE} {k : Int}, (keysSE rs).Nodup → k ∈ keysSE rs → ∃ (i t : Nat), valueAt (kvSE rs) k = some (.int i t) ∧ i < rs.length
  | [], _, _, h => by simp [keysSE] at h
  | e :: r, k, hn, h => by
    have e0 : keysSE (e :: r) = keysSE r ++ [e.d.key] := by simp [keysSE]
    rw [e0, List.nodup_append] at hn
    rw [e0, List.mem_append] at h
    rcases h with h | h
    · obtain ⟨i, t, h1, h2⟩ := kvSE_some hn.1 h
      exact ⟨i, t, va_append_some h1, by simp; omega⟩
    · obtain rfl := List.mem_singleton.mp h
      have hno : e.d.key ∉ keysSE r := fun hm => hn.2.2 _ hm _ (by simp) rfl
      exact ⟨r.length, e.dt, va_append_none (kvSE_none hno), by simp⟩
/-- the search's things -/
structure FI (w : World) (nodes : List Nd) (sc : Int → List Int) (st : Int → Option Nat) (fin : List Int) (rs : List SE) (oP so : Obj) : Prop where
  D : DI sc (nodes.map Nd.key) st (keysSE rs) fin
  ent : ∀ e ∈ rs, st e.d.key = some e.p ∧ e.d ∈ nodes
  oP : oP.IsDictOf (intKind Challenge.pw_ij0208_01 w) (kvSE rs)
  so : so.SetObjOf (intKind Challenge.pw_ij0208_01 w) (fun k => (st k).isSome) (fin.length + rs.length)
theorem keysSE_len (rs : List SE) : (keysSE rs).length = rs.length := by simp [keysSE]
theorem keysSE_last (e : SE) (r : List SE) : (keysSE (e :: r)).getLast? = some e.d.key := by simp [keysSE]

end
section
open PyProof.Rows.LCg PyProof.Rows.LCt PyProof.V PySem.Spec
section
variable {prog : Program} {w : World} {A : Around} {E : Value → Shared → Prop} {s s₁ s₂ : Shared} {env : Env} {g : Heap} {L : Addr} {m : Str → Option Value}
/-- a fresh iterator it over n things -/
inductive Src (prog : Program) (w : World) (A : Around) (g : Heap) (s₁ : Shared) (n : Nat) (P : Nat → Value → Prop) (S : List (Addr × Obj) → Prop) (it : Value) (s₂ : Shared) : Prop
  | mk (I : _) (fp : _) (St : _) (oI : _) (a0 : it = .ref I) (a1 : I = s₁.heap.objs.size) (a2 : s₂ = { s₁ with heap := s₁.heap.push oI }) (a3 : Walks prog w A I fp [I] n P St) (a4 : (∀ i h, St i h → ∃ o, h.get? I = some o)) (a5 : (∀ i h h' o nw, St i h → h.get? I = some o → h'.get? I = some o → (∀ b o, g.get? b = some o → h'.get? b = some o) → (∀ p ∈ nw, h'.get? p.1 = some p.2) → S nw → St i h')) (a6 : St 0 s₂.heap) (a7 : (∀ b ∈ fp, b < s₂.heap.objs.size)) : Src prog w A g s₁ n P S it s₂
/-- it stands in the ledger or in the base -/
def Stands (g : Heap) (a : Addr) (o : Obj) (nw : List (Addr × Obj)) : Prop := (a, o) ∈ nw ∨ g.get? a = some o
theorem Stands.get {a : Addr} {o : Obj} {nw : List (Addr × Obj)} {h : Heap} (x : Stands g a o nw) (hn : ∀ p ∈ nw, h.get? p.1 = some p.2) (hg : ∀ b o, g.get? b = some o → h.get? b = some o) : h.get? a = some o := by
  rcases x with x | x
  · exact hn _ x
  · exact hg _ _ x
theorem srcList {l : Addr} {items : Array Value} {n : Nat} {Q : Value → Shared → Prop} (hh : A.handled = none) (hl : s.heap.get? l = some (listOf items n))
    (h : ∀ it s₂, Src prog w A g s items.size (fun i v => items[i]? = some v) (Stands g l (listOf items n)) it s₂ → Q it s₂) : wpAny (model prog w) A (pyIter (.ref l)) Q E s := by
  have hL : s.heap.IsList l items := isListH hl
  have hlt := Heap.lt_size hl
  refine wpAny_pyIter_list hL (h _ _ ⟨s.heap.objs.size, _, _, _, rfl, rfl, rfl, Walks.list hh s.heap.objs.size l (Nat.ne_of_lt hlt) items, ?_, ?_, ⟨⟨_, Heap.get?_push_size _ rfl, rfl, rfl⟩, hL.push _⟩, ?_⟩)
  · rintro i h ⟨⟨o, ho, _⟩, _⟩; exact ⟨o, ho⟩
  · rintro i h h' o nw ⟨⟨o', q, r⟩, _⟩ e e' hg hn hS
    rw [e] at q; cases q
    exact ⟨⟨o, e', r⟩, isListH (hS.get hn hg)⟩
  · intro b hb
    show b < (s.heap.push _).objs.size
    rw [Heap.size_push]
    rcases List.mem_cons.mp hb with rfl | hb
    · exact Nat.lt_succ_self _
    · rw [List.mem_singleton.mp hb]; exact Nat.lt_succ_of_lt hlt
theorem srcRange {r : Addr} {a b : Int} {t u v : Tok} {n : Nat} {Q : Value → Shared → Prop} (hh : A.handled = none) (hr : IsRange s.heap r a b 1 t u v) (hsm : Builtin.Range.small a b 1 = true) (hn : Builtin.Range.rangeSize a b 1 = ((n : Nat) : Int))
    (h : ∀ it s₂, Src prog w A g s n (fun i v => ∃ t, v = .int (a + (i : Int)) t) (fun _ => True) it s₂ → Q it s₂) : wpAny (model prog w) A (pyIter (.ref r)) Q E s := by
  refine wpAny_pyIter_range hr hsm (h _ _ ⟨s.heap.objs.size, _, _, _, rfl, rfl, rfl, range_walks hh a n, fun i h st => ⟨_, st⟩, ?_, ?_, ?_⟩)
  · intro i h h' o nw st e e' _ _ _
    have st' : h.get? s.heap.objs.size = some _ := st
    show h'.get? s.heap.objs.size = some _
    rw [e', ← e]; exact st'
  · show IsRangeIter _ _ _ _ _
    rw [hn]; simpa using Heap.get?_push_size _ rfl
  · intro b hb
    rw [List.mem_singleton.mp hb]
    show s.heap.objs.size < (s.heap.push _).objs.size
    rw [Heap.size_push]; exact Nat.lt_succ_self _
theorem srcVals {V d : Addr} {od : Obj} {kvs : List (Int × Value)} {Q : Value → Shared → Prop} (hh : A.handled = none) (hv : s.heap.IsValuesView V d) (hd : od.IsDictOf (intKind prog w) kvs) (ho : s.heap.get? d = some od)
    (h : ∀ it s₂, Src prog w A g s kvs.length (fun i v => ∃ k, kvs[i]? = some (k, v)) (Stands g d od) it s₂ → Q it s₂) : wpAny (model prog w) A (pyIter (.ref V)) Q E s := by
  obtain ⟨ep, ha⟩ := KdkAt.of hd
  have hT := ha.dictAt ho
  have hlt := Heap.lt_size ho
  refine wpAny_pyIter_values hv hT (h _ _ ⟨s.heap.objs.size, _, _, _, rfl, rfl, rfl, Walks.dictValues hh s.heap.objs.size d (Nat.ne_of_lt hlt) kvs ep, ?_, ?_, ⟨⟨_, Heap.get?_push_size _ rfl, rfl, rfl⟩, hT.at' fun o e => Heap.get?_push_of_some _ e⟩, ?_⟩)
  · rintro i h ⟨⟨o, ho, _⟩, _⟩; exact ⟨o, ho⟩
  · rintro i h h' o nw ⟨⟨o', q, r⟩, _⟩ e e' hg hn hS
    rw [e] at q; cases q
    exact ⟨⟨o, e', r⟩, ha.dictAt (hS.get hn hg)⟩
  · intro b hb
    show b < (s.heap.push _).objs.size
    rw [Heap.size_push]
    rcases List.mem_cons.mp hb with rfl | hb
    · exact Nat.lt_succ_self _
    · rw [List.mem_singleton.mp hb]; exact Nat.lt_succ_of_lt hlt
theorem srcKeys {d : Addr} {od : Obj} {kvs : List (Int × Value)} {Q : Value → Shared → Prop} (hh : A.handled = none) (hlo : (d == sysModules) = false) (hd : od.IsDictOf (intKind prog w) kvs) (ho : s.heap.get? d = some od)
    (h : ∀ it s₂, Src prog w A g s kvs.length (fun i v => ∃ p t, kvs[i]? = some p ∧ v = .int p.1 t) (Stands g d od) it s₂ → Q it s₂) : wpAny (model prog w) A (pyIter (.ref d)) Q E s := by
  obtain ⟨ep, ha⟩ := KdkAt.of hd
  have hT := ha.dictAt ho
  have hlt := Heap.lt_size ho
  have W := Walks.dictKeys (prog := prog) (w := w) (A := A) (knd := intKind prog w) hh s.heap.objs.size d (Nat.ne_of_lt hlt) kvs ep
  refine wpAny_pyIter_dict hlo hT (h _ _ ⟨s.heap.objs.size, _, _, _, rfl, rfl, rfl, ⟨W.sub, W.frame, fun i s Q E hi st hQ => W.item i s Q E hi st fun v h' tk hP => hQ v h' tk ?_, W.done, W.self⟩, ?_, ?_, ⟨⟨_, Heap.get?_push_size _ rfl, rfl, rfl⟩, hT.at' fun o e => Heap.get?_push_of_some _ e⟩, ?_⟩)
  · obtain ⟨k, x, hk, hv⟩ := hP
    obtain ⟨tv, rfl⟩ := PySem.Value.isInt_shape hv
    exact ⟨(k, x), tv, hk, rfl⟩
  · rintro i h ⟨⟨o, ho, _⟩, _⟩; exact ⟨o, ho⟩
  · rintro i h h' o nw ⟨⟨o', q, r⟩, _⟩ e e' hg hn hS
    rw [e] at q; cases q
    exact ⟨⟨o, e', r⟩, ha.dictAt (hS.get hn hg)⟩
  · intro b hb
    show b < (s.heap.push _).objs.size
    rw [Heap.size_push]
    rcases List.mem_cons.mp hb with rfl | hb
    · exact Nat.lt_succ_self _
    · rw [List.mem_singleton.mp hb]; exact Nat.lt_succ_of_lt hlt
/-- what a turn of a comprehension leaves -/
inductive EndJ (g : Heap) (L : Addr) (m : Str → Option Value) (s₁ : Shared) (I : Addr) (oI : Obj) (C : Addr) (oC : Obj) (D : Addr) (oD : Obj) (K : List (Addr × Obj) → Prop) (s₂ : Shared) : Prop
  | mk (h' : _) (tk : _) (nw' : _) (a0 : s₂ = { s₁ with heap := h', toks := tk }) (a1 : Fr g L h' m) (a2 : News g L h' ((I, oI) :: (C, oC) :: (D, oD) :: nw')) (a3 : Nod ((I, oI) :: (C, oC) :: (D, oD) :: nw')) (a4 : K nw') : EndJ g L m s₁ I oI C oC D oD K s₂
def TurnT (prog : Program) (w : World) (A : Around) (g : Heap) (L : Addr) (m : Str → Option Value) (cenv : Addr → Env) (ct : Expr) (elt : Expr) (x : Str) (s : Shared) (P : Nat → Value → Prop) (J : Nat → List Value → List (Addr × Obj) → Prop) : Prop :=
  ∀ i v ys nw I oI C oC D m₂ h tk (E' : Value → Shared → Prop), P i v → J i ys nw → NsObj oC m₂ → m₂ x = some v → Fr g L h m → News g L h ((I, oI) :: (C, oC) :: (D, listOf ys.toArray ys.length) :: nw) → Nod ((I, oI) :: (C, oC) :: (D, listOf ys.toArray ys.length) :: nw) →
    wpAny (model prog w) A (isTrue ct (cenv C) (eval ct (cenv C))) (fun ok s' => if ok = true then
        wpAny (model prog w) A (eval elt (cenv C)) (fun y => EndJ g L m { s with heap := h, toks := tk } I oI C oC D (listOf ys.toArray ys.length) (J (i + 1) (ys ++ [y]))) E' s'
      else EndJ g L m { s with heap := h, toks := tk } I oI C oC D (listOf ys.toArray ys.length) (J (i + 1) ys) s') E' { s with heap := h, toks := tk }
def TurnU (prog : Program) (w : World) (A : Around) (g : Heap) (L : Addr) (m : Str → Option Value) (cenv : Addr → Env) (elt : Expr) (x : Str) (s : Shared) (P : Nat → Value → Prop) (J : Nat → List Value → List (Addr × Obj) → Prop) : Prop :=
  ∀ i v ys nw I oI C oC D m₂ h tk (E' : Value → Shared → Prop), P i v → J i ys nw → NsObj oC m₂ → m₂ x = some v → Fr g L h m → News g L h ((I, oI) :: (C, oC) :: (D, listOf ys.toArray ys.length) :: nw) → Nod ((I, oI) :: (C, oC) :: (D, listOf ys.toArray ys.length) :: nw) →
    wpAny (model prog w) A (eval elt (cenv C)) (fun y => EndJ g L m { s with heap := h, toks := tk } I oI C oC D (listOf ys.toArray ys.length) (J (i + 1) (ys ++ [y]))) E' { s with heap := h, toks := tk }
theorem nodOff3 {I C D : Addr} {oI oC oD : Obj} {nw : List (Addr × Obj)} : Nod ((I, oI) :: (C, oC) :: (D, oD) :: nw) ↔ Off3 I C D nw ∧ ((@Ne Nat I C) ∧ (@Ne Nat I D) ∧ (@Ne Nat C D)) ∧ Nod nw := by
  rw [nod_cons, nod_cons, nod_cons]
  constructor
  · rintro ⟨h1, h2, h3, h4⟩
    refine ⟨Off3.of fun p hp => ⟨h1 p (.tail _ (.tail _ hp)), h2 p (.tail _ hp), h3 p hp⟩, ⟨fun e => h1 (C, oC) (.head _) e.symm, fun e => h1 (D, oD) (.tail _ (.head _)) e.symm, fun e => h2 (D, oD) (.head _) e.symm⟩, h4⟩
  · rintro ⟨h1, ⟨h2, h3, h5⟩, h4⟩
    have o := h1.mem
    refine ⟨fun q hq => ?_, fun q hq => ?_, fun q hq => (o q hq).2.2, h4⟩
    · rcases List.mem_cons.mp hq with rfl | hq
      · exact Ne.symm h2
      · rcases List.mem_cons.mp hq with rfl | hq
        · exact Ne.symm h3
        · exact (o q hq).1
    · rcases List.mem_cons.mp hq with rfl | hq
      · exact Ne.symm h5
      · exact (o q hq).2.1
theorem restT {ct elt : Expr} {x : Str} {scope : Scope} {cl : List (Str × Addr)} {S : List (Addr × Obj) → Prop} {P : Nat → Value → Prop} {J : Nat → List Value → List (Addr × Obj) → Prop} {n : Nat} (hS : ∀ i ys nw, J i ys nw → S nw)
    (turn : TurnT prog w A g L m (fun C => compEnvC scope cl C env) ct elt x s P J) :
    ∀ k i ys nw, i + k = n → J i ys nw → Nod nw → CompRestT prog w A g L m env ct elt x scope cl s S P (fun ys nw => J n ys nw ∧ Nod nw) k i ys nw
  | 0, i, ys, nw, e, hJ, hn => .zero ⟨by rw [← e]; exact hJ, hn⟩
  | k + 1, i, ys, nw, e, hJ, hn => .succ fun v I oI C oC D m₂ h tk E' hP hC hv F N off ne => by
    have e' : i + 1 + k = n := by omega
    refine wpAny_mono (turn i v ys nw I oI C oC D m₂ h tk E' hP hJ hC hv F N (nodOff3.mpr ⟨off, ne, hn⟩)) (fun ok s' z => ?_) fun _ _ z => z
    have fin : ∀ (ys' : List Value) (y : Value) (s' : Shared), EndJ g L m { s with heap := h, toks := tk } I oI C oC D (listOf ys.toArray ys.length) (J (i + 1) ys') s' →
        CompEnd g L m { s with heap := h, toks := tk } I oI C oC D (lst ys) S (fun _ nw' => CompRestT prog w A g L m env ct elt x scope cl s S P (fun ys nw => J n ys nw ∧ Nod nw) k (i + 1) ys' nw') y s' := by
      rintro ys' y s' ⟨h', tk', nw', rfl, F', N', nd', hJ'⟩
      have nd'' := nodOff3.mp nd'
      exact ⟨h', tk', nw', rfl, F', N', nd''.1, hS _ _ _ hJ', restT hS turn k (i + 1) ys' nw' e' hJ' nd''.2.2⟩
    cases ok with
    | true =>
      simp only [if_true] at z ⊢
      exact wpAny_mono z (fun y s'' z => fin _ y s'' z) fun _ _ z => z
    | false =>
      simp only [Bool.false_eq_true, if_false] at z ⊢
      exact fin _ _ _ z
theorem restU {elt : Expr} {x : Str} {scope : Scope} {cl : List (Str × Addr)} {S : List (Addr × Obj) → Prop} {P : Nat → Value → Prop} {J : Nat → List Value → List (Addr × Obj) → Prop} {n : Nat} (hS : ∀ i ys nw, J i ys nw → S nw)
    (turn : TurnU prog w A g L m (fun C => compEnvC scope cl C env) elt x s P J) :
    ∀ k i ys nw, i + k = n → J i ys nw → Nod nw → CompRest prog w A g L m env elt x scope cl s S P (fun ys nw => J n ys nw ∧ Nod nw) k i ys nw
  | 0, i, ys, nw, e, hJ, hn => .zero ⟨by rw [← e]; exact hJ, hn⟩
  | k + 1, i, ys, nw, e, hJ, hn => .succ fun v I oI C oC D m₂ h tk E' hP hC hv F N off ne => by
    have e' : i + 1 + k = n := by omega
    refine wpAny_mono (turn i v ys nw I oI C oC D m₂ h tk E' hP hJ hC hv F N (nodOff3.mpr ⟨off, ne, hn⟩)) (fun y s' z => ?_) fun _ _ z => z
    obtain ⟨h', tk', nw', rfl, F', N', nd', hJ'⟩ := z
    have nd'' := nodOff3.mp nd'
    exact ⟨h', tk', nw', rfl, F', N', nd''.1, hS _ _ _ hJ', restU hS turn k (i + 1) (ys ++ [y]) nw' e' hJ' nd''.2.2⟩
/-- the list of a comprehension stands; its own names (C) may go -/
def FinAt (g : Heap) (L : Addr) (m : Str → Option Value) (s : Shared) (K : List Value → List (Addr × Obj) → Prop) (Fin : Addr → Addr → Shared → Prop) : Prop :=
  ∀ D C oC m' h tk ys nw, K ys nw → NsObj oC m' → Fr g L h m → News g L h ((C, oC) :: (D, listOf ys.toArray ys.length) :: nw) → Nod ((C, oC) :: (D, listOf ys.toArray ys.length) :: nw) → Fin D C { s with heap := h, toks := tk }
inductive CompAtT (prog : Program) (w : World) (A : Around) (g : Heap) (L : Addr) (m : Str → Option Value) (cenv : Addr → Env) (ct elt : Expr) (x : Str) (Fin : Addr → Addr → Shared → Prop) (it : Value) (s₂ : Shared) : Prop
  | mk (s₁ : _) (n : _) (P : _) (S : _) (news : _) (J : _) (a0 : Src prog w A g s₁ n P S it s₂) (a1 : n ≤ sizeLine) (a2 : Fr g L s₁.heap m) (a3 : News g L s₁.heap news) (a4 : Nod news) (a5 : J 0 [] news) (a6 : (∀ i ys nw, J i ys nw → S nw)) (a7 : TurnT prog w A g L m cenv ct elt x s₁ P J) (a8 : FinAt g L m s₁ (J n) Fin) : CompAtT prog w A g L m cenv ct elt x Fin it s₂
inductive CompAtU (prog : Program) (w : World) (A : Around) (g : Heap) (L : Addr) (m : Str → Option Value) (cenv : Addr → Env) (elt : Expr) (x : Str) (Fin : Addr → Addr → Shared → Prop) (it : Value) (s₂ : Shared) : Prop
  | mk (s₁ : _) (n : _) (P : _) (S : _) (news : _) (J : _) (a0 : Src prog w A g s₁ n P S it s₂) (a1 : n ≤ sizeLine) (a2 : Fr g L s₁.heap m) (a3 : News g L s₁.heap news) (a4 : Nod news) (a5 : J 0 [] news) (a6 : (∀ i ys nw, J i ys nw → S nw)) (a7 : TurnU prog w A g L m cenv elt x s₁ P J) (a8 : FinAt g L m s₁ (J n) Fin) : CompAtU prog w A g L m cenv elt x Fin it s₂
section
variable {elt iter : Expr} {x : Str} {px : Pos} {scope : Scope} {cl : List (Str × Addr)} {pos : Pos} {use : Option (Value → Sem Unit)} {Q : Value → Shared → Prop}
theorem compT {ct : Expr} (F₀ : Fr g L s.heap m)
    (hclos : closureFor scope env = pure cl) (hcell : ∀ y ∈ scope.names, y.2 ≠ .cell) (hkind : scope.kind = .function)
    (hnames : ∀ y ∈ scope.names, y.2 = .local → scope.names.lookup y.1 = some .local) (hx : scope.names.lookup x = some .local)
    (h : wpAny (model prog w) A (eval iter env) (fun xv s₁ => wpAny (model prog w) A (pyIter xv)
      (CompAtT prog w A g L m (fun C => compEnvC scope cl C env) ct elt x fun D C s' => compPost (model prog w) A E use Q (.ref D) C (.ok .next) s') E s₁) E s)
    (hs : ∀ x, foldedSetIterable iter env x = pure x := by intro _; rfl) :
    wpAny (model prog w) A (comprehension (.ListComp elt [⟨.Name x px, iter, [ct], 0⟩] scope pos) scope env (firstIterPos [⟨.Name x px, iter, [ct], 0⟩] pos) (newList []) false (eval iter env) use) Q E s := by
  refine wpAny_comprehension_free rfl hs hclos hkind hnames (wpAny_mono h (fun xv s₁ h₁ => wpAny_mono h₁ (fun it s₂ h₂ => ?_) fun _ _ e => e) fun _ _ e => e)
  obtain ⟨s₀, n, P, S, news, J, ⟨I, fp, St, oI, rfl, rfl, rfl, W, hob, hSt, hst, hfp⟩, hsz, F, N, nd, h0, hS, turn, fin⟩ := h₂
  have up : ∀ b o, s₀.heap.get? b = some o → (s₀.heap.push oI).get? b = some o := fun b o e => Heap.get?_push_of_some _ e
  have hI : g.get? s₀.heap.objs.size = none := next_is_new F
  refine block_T W hsz hob (fun i h h' o nw a b c d e f => hSt i h h' o nw a b c d (fun p hp => (e p hp).1) f) hcell hkind hx hst hfp (F.keeps up) (N.grown up) (Nat.ne_of_lt F.ns.lt) hI (fun p hp => Nat.ne_of_lt (Heap.lt_size (N p hp).1)) (hS _ _ _ h0)
    (restT (s := { s₀ with heap := s₀.heap.push oI }) hS turn n 0 [] news (Nat.zero_add _) h0 nd) ?_
  intro D C h tk m' ys news' F' N' o1 hn hC₀ hD₀ hCL hDL hCD offC fin'
  obtain ⟨oC, heC, hoC⟩ := ns_obj hn
  refine fin D C oC m' h tk ys news' fin'.1 hoC F' (fun p hp => ?_) (nod_cons.mpr ⟨fun q hq => ?_, nod_cons.mpr ⟨?_, fin'.2⟩⟩)
  · rcases List.mem_cons.mp hp with rfl | hp
    · exact ⟨heC, hCL, hC₀⟩
    · exact N' p hp
  · rcases List.mem_cons.mp hq with rfl | hq
    · exact Ne.symm hCD
    · exact offC q hq
  · have : ∀ {l : List (Addr × Obj)}, Off1 D l → ∀ p ∈ l, p.1 ≠ D := by
      intro l
      induction l with
      | nil => exact fun _ _ h => nomatch h
      | cons a r ih =>
        intro o p hp
        rcases List.mem_cons.mp hp with rfl | hp
        · exact o.1
        · exact ih o.2 p hp
    exact this o1
theorem compU (F₀ : Fr g L s.heap m)
    (hclos : closureFor scope env = pure cl) (hcell : ∀ y ∈ scope.names, y.2 ≠ .cell) (hkind : scope.kind = .function)
    (hnames : ∀ y ∈ scope.names, y.2 = .local → scope.names.lookup y.1 = some .local) (hx : scope.names.lookup x = some .local)
    (h : wpAny (model prog w) A (eval iter env) (fun xv s₁ => wpAny (model prog w) A (pyIter xv)
      (CompAtU prog w A g L m (fun C => compEnvC scope cl C env) elt x fun D C s' => compPost (model prog w) A E use Q (.ref D) C (.ok .next) s') E s₁) E s)
    (hs : ∀ x, foldedSetIterable iter env x = pure x := by intro _; rfl) :
    wpAny (model prog w) A (comprehension (.ListComp elt [⟨.Name x px, iter, [], 0⟩] scope pos) scope env (firstIterPos [⟨.Name x px, iter, [], 0⟩] pos) (newList []) false (eval iter env) use) Q E s := by
  refine wpAny_comprehension_free rfl hs hclos hkind hnames (wpAny_mono h (fun xv s₁ h₁ => wpAny_mono h₁ (fun it s₂ h₂ => ?_) fun _ _ e => e) fun _ _ e => e)
  obtain ⟨s₀, n, P, S, news, J, ⟨I, fp, St, oI, rfl, rfl, rfl, W, hob, hSt, hst, hfp⟩, hsz, F, N, nd, h0, hS, turn, fin⟩ := h₂
  have up : ∀ b o, s₀.heap.get? b = some o → (s₀.heap.push oI).get? b = some o := fun b o e => Heap.get?_push_of_some _ e
  have hI : g.get? s₀.heap.objs.size = none := next_is_new F
  refine block_U W hsz hob (fun i h h' o nw a b c d e f => hSt i h h' o nw a b c d (fun p hp => (e p hp).1) f) hcell hkind hx hst hfp (F.keeps up) (N.grown up) (Nat.ne_of_lt F.ns.lt) hI (fun p hp => Nat.ne_of_lt (Heap.lt_size (N p hp).1)) (hS _ _ _ h0)
    (restU (s := { s₀ with heap := s₀.heap.push oI }) hS turn n 0 [] news (Nat.zero_add _) h0 nd) ?_
  intro D C h tk m' ys news' F' N' o1 hn hC₀ hD₀ hCL hDL hCD offC fin'
  obtain ⟨oC, heC, hoC⟩ := ns_obj hn
  refine fin D C oC m' h tk ys news' fin'.1 hoC F' (fun p hp => ?_) (nod_cons.mpr ⟨fun q hq => ?_, nod_cons.mpr ⟨?_, fin'.2⟩⟩)
  · rcases List.mem_cons.mp hp with rfl | hp
    · exact ⟨heC, hCL, hC₀⟩
    · exact N' p hp
  · rcases List.mem_cons.mp hq with rfl | hq
    · exact Ne.symm hCD
    · exact offC q hq
  · have : ∀ {l : List (Addr × Obj)}, Off1 D l → ∀ p ∈ l, p.1 ≠ D := by
      intro l
      induction l with
      | nil => exact fun _ _ h => nomatch h
      | cons a r ih =>
        intro o p hp
        rcases List.mem_cons.mp hp with rfl | hp
        · exact o.1
        · exact ih o.2 p hp
    exact this o1
end
/-- the comprehension's value goes on -/
theorem finEval {K : List Value → List (Addr × Obj) → Prop} {Q : Value → Shared → Prop}
    (done : ∀ D h tk ys nw, K ys nw → Fr g L h m → News g L h ((D, listOf ys.toArray ys.length) :: nw) → Nod ((D, listOf ys.toArray ys.length) :: nw) → Q (.ref D) { s with heap := h, toks := tk }) :
    FinAt g L m s K fun D C s' => compPost (model prog w) A E none Q (.ref D) C (.ok .next) s' := by
  intro D C oC m' h tk ys nw hK hC F N nd
  have hm := N (C, oC) (.head _)
  have hnd := nod_cons.mp nd
  refine ⟨m', hC.ns hm.1, fun h' hs => done D h' tk ys nw hK (F.change hs hm.2.1 hm.2.2) (fun p hp => ?_) hnd.2⟩
  have q := N p (.tail _ hp)
  exact ⟨hs.extBut _ _ (hnd.1 p hp) q.1, q.2⟩
/-- the comprehension's value is used (assigned) ahead of its names' going -/
theorem finUse {K : List Value → List (Addr × Obj) → Prop} {Q : Value → Shared → Prop} {u : Value → Sem Unit}
    (done : ∀ D C oC h tk ys nw, K ys nw → Fr g L h m → News g L h ((C, oC) :: (D, listOf ys.toArray ys.length) :: nw) → Nod ((C, oC) :: (D, listOf ys.toArray ys.length) :: nw) →
      wpAny (model prog w) A (u (.ref D)) (fun _ s' => ∃ h' tk' m₁ nx, s' = { s with heap := h', toks := tk' } ∧ Fr g L h' m₁ ∧ News g L h' ((C, oC) :: nx) ∧ Nod ((C, oC) :: nx) ∧
        ∀ h'' , Fr g L h'' m₁ → News g L h'' nx → Nod nx → Q .none { s with heap := h'', toks := tk' }) E { s with heap := h, toks := tk }) :
    FinAt g L m s K fun D C s' => compPost (model prog w) A E (some u) Q (.ref D) C (.ok .next) s' := by
  intro D C oC m' h tk ys nw hK hC F N nd
  refine wpAny_mono (done D C oC h tk ys nw hK F N nd) (fun _ s' z => ?_) fun _ _ z => z
  obtain ⟨h', tk', m₁, nx, rfl, F', N', nd', hq⟩ := z
  have hm := N' (C, oC) (.head _)
  have hnd := nod_cons.mp nd'
  refine ⟨m', hC.ns hm.1, fun h'' hs => hq h'' (F'.change hs hm.2.1 hm.2.2) (fun p hp => ?_) hnd.2⟩
  have q := N' p (.tail _ hp)
  exact ⟨hs.extBut _ _ (hnd.1 p hp) q.1, q.2⟩
end

end
section
open PyProof.Rows.LCg PyProof.Rows.LCt PyProof.V PySem.Spec
section
variable {M : Model} {A : Around} {E : Value → Shared → Prop} {s : Shared} {env : Env} {g : Heap} {L C c : Addr} {m₂ : Str → Option Value} {news : List (Addr × Obj)} {oC : Obj} {scope : Scope} {cl : List (Str × Addr)} {x : Str} {pos : Pos} {v : Value} {Q : Value → Shared → Prop}
/-- names in a comprehension: its own, a cell's, a global one, a builtin -/
theorem cmpLocal (N : News g L s.heap news) (hm : (C, oC) ∈ news) (hC : NsObj oC m₂) (hv : m₂ x = some v) (h : Q v s)
    (hk : (compEnvC scope cl C env).scope.kind = .function := by rfl) (hx : (compEnvC scope cl C env).kindOf x = some .local := by rfl) (hd : (x == ("__debug__" : Str)) = false := by decide) :
    wpAny M A (eval (.Name x pos) (compEnvC scope cl C env)) Q E s := wpAny_Name (wpAny_loadName_local hk hx (hC.ns (N _ hm).1) hv h) hd
theorem cmpCell (N : News g L s.heap news) (hc : cl.lookup x = some c) (hm : (c, oC) ∈ news) (ho : oC.data = .cell (some v)) (h : Q v s)
    (hk : (compEnvC scope cl C env).scope.kind = .function := by rfl) (hx : (compEnvC scope cl C env).kindOf x = some .cell := by rfl) (hd : (x == ("__debug__" : Str)) = false := by decide) :
    wpAny M A (eval (.Name x pos) (compEnvC scope cl C env)) Q E s := wpAny_Name (wpAny_loadName_cell hk hx hc ⟨oC, (N _ hm).1, ho⟩ h) hd
end
section
variable {w : World} {A : Around} {E : Value → Shared → Prop} {s : Shared} {env : Env} {g : Heap} {L C : Addr} {m : Str → Option Value} {scope : Scope} {cl : List (Str × Addr)} {x : Str} {pos : Pos} {v : Value} {Q : Value → Shared → Prop} {M : Model}
theorem cmpGlob (F : Fr g L s.heap m) (B : Bs w g) (e : nsIn (hd.heap_39 w.params) mainGlobals x = some (some v)) (h : Q v s) (hg : env.globals = mainGlobals := by rfl)
    (hk : (compEnvC scope cl C env).scope.kind = .function := by rfl) (hx : (compEnvC scope cl C env).kindOf x = some .globalImplicit := by rfl) (hd : (x == ("__debug__" : Str)) = false := by decide) :
    wpAny M A (eval (.Name x pos) (compEnvC scope cl C env)) Q E s := by
  obtain ⟨X, mg, mb, T⟩ := B
  refine Name_function_global hk hx (loadGlobal_global (env := compEnvC scope cl C env) ?_ (mg_of X T.g e) h) hd
  show s.heap.Ns env.globals mg
  rw [hg]
  exact T.g.keeps F.keep
end
/-- a view of a dict's values -/
abbrev valsObj (d : Addr) : Obj := { cls := .type "dict_values", data := .fields #[.ref d] }
section
variable {prog : Program} {w : World} {A : Around} {E : Value → Shared → Prop} {s : Shared} {g : Heap} {L d : Addr} {m : Str → Option Value} {news : List (Addr × Obj)} {o : Obj} {kvs : List (Int × Value)}
theorem valsMeth {pl : Sem Bool} {Q : Value × List Value → Shared → Prop} (ho : s.heap.get? d = some o) (hd : o.IsDictOf (intKind prog w) kvs) (h : Q (.builtin "dict.values", [.ref d]) s) : wpAny (model prog w) A (getMethod (.ref d) (Str.ofString "values") pl) Q E s := by
  obtain ⟨ep, ha⟩ := KdkAt.of hd
  have hD := ha.dictAt ho
  exact getMethod_builtin (Heap.dictOf_iff.mpr ⟨o, ho, hd⟩ : s.heap.DictOf (intKind prog w) d kvs).typeIs PySem.F.plainAttrs_dict PySem.F.slot_dict_values PySem.F.type_dict_values (Heap.dictOf_iff.mpr ⟨o, ho, hd⟩ : s.heap.DictOf (intKind prog w) d kvs).mapOf.noDict h
theorem valsCall {Q : Value → Shared → Prop} (F : Fr g L s.heap m) (N : News g L s.heap news) (nd : Nod news) (lo : (d == sysModules) = false) (ho : s.heap.get? d = some o) (hd : o.IsDictOf (intKind prog w) kvs)
    (h : ∀ V h', Fr g L h' m → News g L h' ((V, valsObj d) :: news) → Nod ((V, valsObj d) :: news) → Q (.ref V) { s with heap := h' }) : wpAny (model prog w) A (call (.builtin "dict.values") [.ref d]) Q E s := by
  have hD : s.heap.DictOf (intKind prog w) d kvs := Heap.dictOf_iff.mpr ⟨o, ho, hd⟩
  exact call_meetsIn PySem.F.slot_dict_values hD.typeIs PySem.F.entry_dict_values (PySem.F.args_dict_values_1 _) (meets_dict_values (intKind prog w) d lo) ⟨⟨kvs, hD⟩, h _ _ (F.push _) (News.push F N _ rfl) (nodCons nd fun q hq => Heap.lt_size (N q hq).1)⟩
theorem valsView {V : Addr} (N : News g L s.heap news) (hm : (V, valsObj d) ∈ news) : s.heap.IsValuesView V d := ⟨_, (N _ hm).1, rfl, rfl⟩
end

end
section
section
variable {w : World} {A : Around} {s : Shared} {W : List (Addr × Obj)} {R : Result → Shared → Prop} {name qual : Str} {params : Arguments} {body : List Stmt} {scope : Scope} {dV kV doc pm cdv ct oc : Value} {an od : Option Addr} {osl : Array (Option Value)} {f : Addr} {args : Args} {binds : List (Str × Value)}
/-- a call of a def with cells -/
theorem enterC (W : List (Addr × Obj))
    (ho : (hd.heap_39 w.params).lookup f = some ⟨oc, od, .func (fnOf name qual params body scope dV kV doc pm an cdv ct), osl⟩)
    (B : Bs w (hideAll s.heap (W.map (·.1)))) (N : ∀ p ∈ W, s.heap.get? p.1 = some p.2)
    (hcd : codeIn (hd.heap_39 w.params) cdv qual = true) (hroom : A.depth < recursionLimit)
    (hbind : BindsTo s (fnOf name qual params body scope dV kV doc pm an cdv ct) args binds)
    (hkind : (binds.all fun y => scope.names.lookup y.1 == some .local || scope.names.lookup y.1 == some .cell) = true)
    (hnd : ((cellsFrom 0 scope.names []).map (·.1)).Nodup)
    (h : ∀ L h₁ tk cells, Fr (hideAll s.heap (W.map (·.1))) L h₁ (bindL (envOfC qual scope L f cdv).kindOf binds fun _ => none) → News (hideAll s.heap (W.map (·.1))) L h₁ (cells ++ W) →
      CellsAre (bindC (envOfC qual scope L f cdv).kindOf binds fun _ => none) (cellsFrom (L + 1) scope.names []) cells → (∀ p ∈ W, p.1 < L) →
      wpAny (model Challenge.pw_ij0208_01 w) (A.deeper (envOfC qual scope L f cdv)) (execs body (envOfC qual scope L f cdv))
        (fun fl s' => R (.ok (.ret (match fl with | .ret v => v | _ => .none))) s')
        (fun e s' => wpAny (model Challenge.pw_ij0208_01 w) (A.deeper (envOfC qual scope L f cdv)) (leaving (envOfC qual scope L f cdv) e) (fun _ s'' => R (.error e) s'') (fun e' s'' => R (.error e') s'') s')
        { s with heap := h₁, toks := tk })
    (hco : scope.isCoroutine = false := by rfl) (hgen : scope.isGenerator = false := by rfl) (hk : scope.kind = .function := by rfl) : codeAny (model Challenge.pw_ij0208_01 w) A (.call (.ref f) args) R s := by
  have st : (hideAll s.heap (W.map (·.1))).StaysIn s.heap := fun b o e => of_hideAll _ e
  have B' := B.keeps st
  refine codeAny_call_function hroom (B'.X _ _ ho) rfl hco hgen rfl (codeRec_of B'.X hcd) (hbind _ _ _ _ ?_)
  refine wpAny_newFunctionEnv_cells hk (kindsX hkind _) fun env' he s' x => ?_
  subst he
  refine ⟨B'.nolimit.keeps x.toInCall.keep, codeAny_func ?_⟩
  obtain ⟨h₁, tk, rfl, _⟩ := x.done
  have hk₁ := x.toInCall.keep
  obtain ⟨cells, NC, Y⟩ := Cl.news (h₀ := s.heap) (Nat.le_refl _) fun n c hm => ⟨x.cell n c (lookup_of_mem_nodup (cellsFrom_names scope.names 0 (s.heap.objs.size + 1) [] [] rfl ▸ hnd) hm), x.above n c hm⟩
  refine h s.heap.objs.size h₁ tk cells ⟨x.toInCall.ns, fun b o e => hk₁ b o (of_hideAll _ e), Nat.le_of_eq (hideAll_size _ _)⟩ (fun p hp => ?_) Y fun p hp => Heap.lt_size (N p hp)
  rcases List.mem_append.mp hp with hp | hp
  · refine ⟨(NC p hp).1, (NC p hp).2.1, ?_⟩
    cases q : (hideAll s.heap (W.map (·.1))).get? p.1 with
    | none => rfl
    | some o => have := of_hideAll _ q; rw [(NC p hp).2.2] at this; cases this
  · exact ⟨hk₁ _ _ (N p hp), Nat.ne_of_lt (Heap.lt_size (N p hp)), hideAll_none _ (List.mem_map_of_mem hp)⟩
end
section
variable {w : World} {A : Around} {E : Value → Shared → Prop} {s : Shared} {g : Heap} {L a : Addr} {m : Str → Option Value} {cn : Str} {cs : Scope} {ccd : Value} {M : Model} {cl : List (Str × Addr)} {news : List (Addr × Obj)}
theorem gnameX {x : Str} {pos : Pos} {v : Value} {Q : Value → Shared → Prop} (F : Fr g L s.heap m) (B : Bs w g) (e : nsIn (hd.heap_39 w.params) mainGlobals x = some (some v)) (h : Q v s)
    (hk : cs.kind = .function := by rfl) (hx : (envX cn cs L a ccd cl).kindOf x = some .globalImplicit := by rfl) (hd : (x == ("__debug__" : Str)) = false := by decide) :
    wpAny M A (eval (.Name x pos) (envX cn cs L a ccd cl)) Q E s := by
  obtain ⟨X, mg, mb, T⟩ := B
  exact nameX_K F X T e h hk hx hd
theorem bnameX {x : Str} {pos : Pos} {v : Value} {Q : Value → Shared → Prop} (F : Fr g L s.heap m) (B : Bs w g) (e : nsIn (hd.heap_39 w.params) mainGlobals x = some none) (hv : bootBuiltins x = some v) (hn : x ≠ "__name__") (h : Q v s)
    (hk : cs.kind = .function := by rfl) (hx : (envX cn cs L a ccd cl).kindOf x = some .globalImplicit := by rfl) (hd : (x == ("__debug__" : Str)) = false := by decide) :
    wpAny M A (eval (.Name x pos) (envX cn cs L a ccd cl)) Q E s := by
  obtain ⟨X, mg, mb, T⟩ := B
  exact nameX_B F X T e hv hn h hk hx hd
theorem storeXC {x : Str} {v : Value} {v₀ : Option Value} {o : Obj} {c : Addr} {gg : Obj → List (Addr × Obj)} {Q : Unit → Shared → Prop} (F : Fr g L s.heap m) (N : News g L s.heap news) (nd : Nod news) (hc : cl.lookup x = some c) (U : UpdF c o news gg) (hd : o.data = .cell v₀)
    (h : ∀ h' o', Fr g L h' m → News g L h' (gg o') → Nod (gg o') → o'.data = .cell (some v) → Q () { s with heap := h' })
    (hk : cs.kind = .function := by rfl) (hx : (envX cn cs L a ccd cl).kindOf x = some .cell := by rfl) : wpAny M A (storeName (envX cn cs L a ccd cl) x v) Q E s :=
  storeX_C F N hc U hd (fun h' o' F' N' hd' => h h' o' F' N' (nod_updF U nd o') hd') hk hx
end

end
section
open PyProof.Rows.LCg PyProof.Rows.LCt PyProof.V PySem.Spec
section
variable {prog : Program} {w : World} {A : Around} {E : Value → Shared → Prop} {s : Shared} {env : Env} {g : Heap} {m : Str → Option Value} {x : Str} {body : List Stmt} {Q : Flow → Shared → Prop}
/-- a for over a fresh iterator; the turn begins with the store of its target -/
inductive ForAt (prog : Program) (w : World) (A : Around) (g : Heap) (env : Env) (x : Str) (body : List Stmt) (Q : Flow → Shared → Prop) (E : Value → Shared → Prop) (it : Value) (s₂ : Shared) : Prop
  | mk (s₁ : Shared) (n : Nat) (P : Nat → Value → Prop) (S : List (Addr × Obj) → Prop) (m : Str → Option Value) (news : List (Addr × Obj)) (J : Nat → (Str → Option Value) → List (Addr × Obj) → Prop) (a0 : Src prog w A g s₁ n P S it s₂) (a1 : Fr g env.locals s₁.heap m) (a2 : News g env.locals s₁.heap news) (a3 : Nod news) (a4 : J 0 m news) (a5 : (∀ i m nw, J i m nw → S nw)) (a6 : (∀ i v m₁ nw I oI h tk, (∀ p ∈ news, p.1 < I) → P i v → J i m₁ nw → Fr g env.locals h m₁ → News g env.locals h ((I, oI) :: nw) → Nod ((I, oI) :: nw) → wpAny (model prog w) A (storeName env x v) (fun _ s' => wpAny (model prog w) A (execs body env) (TurnJ g env.locals I oI (J (i + 1)) { s₁ with heap := h, toks := tk } Q) E s') E { s₁ with heap := h, toks := tk })) (a7 : (∀ h tk m nw, J n m nw → Fr g env.locals h m → News g env.locals h nw → Nod nw → Q .next { s₁ with heap := h, toks := tk })) : ForAt prog w A g env x body Q E it s₂
inductive LoopF (g : Heap) (env : Env) (s₀ : Shared) (n : Nat) (St : Nat → Heap → Prop) (J : Nat → (Str → Option Value) → List (Addr × Obj) → Prop) (k : Nat) (s' : Shared) : Prop
  | mk (h' : _) (tk : _) (i : _) (m' : _) (nw : _) (o : _) (a0 : s' = { s₀ with heap := h', toks := tk }) (a1 : St i h') (a2 : Fr g env.locals h' m') (a3 : News g env.locals h' ((s₀.heap.objs.size, o) :: nw)) (a4 : Nod ((s₀.heap.objs.size, o) :: nw)) (a5 : J i m' nw) (a6 : i ≤ n) (a7 : k = n + 1 - i) : LoopF g env s₀ n St J k s'
theorem forJ {px pos : Pos} {iter : Expr} (_F : Fr g env.locals s.heap m)
    (h : wpAny (model prog w) A (eval iter env) (fun xv s₁ => wpAny (model prog w) A (pyIter xv) (fun it s₂ => ForAt prog w A g env x body Q E it s₂) E s₁) E s)
    (hs : ∀ x, foldedSetIterable iter env x = pure x := by intro _; rfl)
    (hE : PassesOwn (model prog w) A env E := by passes_own) :
    wpAny (model prog w) A (exec (.For (.Name x px) iter body [] pos) env) Q E s := by
  refine wpAny_For (wpAny_mono h (fun xv s₁ h₁ => wpAny_mono h₁ (fun it s₂ h₂ => ?_) fun _ _ e => e) fun _ _ e => e) hs
  obtain ⟨s₀, n, P, S, m, news, J, ⟨I, fp, St, oI, rfl, rfl, rfl, W, hob, hSt, hst, hfp⟩, F, N, nd, h0, hS, turn, fin⟩ := h₂
  have up : ∀ b o, s₀.heap.get? b = some o → (s₀.heap.push oI).get? b = some o := fun b o e => Heap.get?_push_of_some _ e
  have hI : g.get? s₀.heap.objs.size = none := next_is_new F
  have hIL : env.locals ≠ s₀.heap.objs.size := Nat.ne_of_lt F.ns.lt
  obtain ⟨oI0, hoI0⟩ := hob _ _ hst
  have hlt : ∀ p ∈ news, p.1 < s₀.heap.objs.size := fun p hp => Heap.lt_size (N p hp).1
  refine codeAny_forLoop (R := fun r s' => match r with | .ok f => Q f s' | .error e => cameBackBy (model prog w) A env E e s')
    (LoopF g env s₀ n St J) ?_ (n + 1)
    ⟨s₀.heap.push oI, s₀.toks, 0, m, news, oI0, rfl, hst, F.keeps up, fun p hp => ?_, nodCons nd hlt, h0, Nat.zero_le _, rfl⟩
  · rintro k s' ⟨h', tk, i, m', nw, o, rfl, hst', F', N', nd', hJ, hi, rfl⟩
    have hnd := nod_cons.mp nd'
    have next : ∀ h₁ : Heap, (∀ b o, b ∉ [s₀.heap.objs.size] → h'.get? b = some o → h₁.get? b = some o) → Fr g env.locals h₁ m' ∧ News g env.locals h₁ nw := fun h₁ hk₁ =>
      ⟨fr_but F' hk₁ hIL hI, news_but (fun p hp => N' p (.tail _ hp)) hk₁ hnd.1⟩
    by_cases hlt' : i < n
    · refine W.item i _ _ _ hlt' hst' fun v h₁ tk₁ hP hst₁ hk₁ => ?_
      obtain ⟨F₁, N₁⟩ := next h₁ hk₁
      obtain ⟨o₁, ho₁⟩ := hob _ _ hst₁
      have N₂ : News g env.locals h₁ ((s₀.heap.objs.size, o₁) :: nw) := fun p hp => by
        rcases List.mem_cons.mp hp with rfl | hp
        · exact ⟨ho₁, Ne.symm hIL, hI⟩
        · exact N₁ p hp
      have nd₂ : Nod ((s₀.heap.objs.size, o₁) :: nw) := nod_cons.mpr hnd
      refine wpAny_assign_Name (wpAny_passesOwn hE (wpAny_mono (turn i v m' nw _ o₁ h₁ tk₁ hlt hP hJ F₁ N₂ nd₂) (fun _ s₂ z => wpAny_passesOwn hE (wpAny_mono z (fun f s₃ h₃ => ?_) fun _ _ e => e)) fun _ _ e => e))
      have fin' : TurnE g env.locals s₀.heap.objs.size o₁ (J (i + 1)) { s₀ with heap := h₁, toks := tk₁ } s₃ → ∃ m_1, m_1 < n + 1 - i ∧ LoopF g env s₀ n St J m_1 s₃ := by
        rintro ⟨h9, tk₃, m₃, nx, rfl, F₃, N₃, nd₃, hJ₃⟩
        refine ⟨n + 1 - (i + 1), by omega, h9, tk₃, i + 1, m₃, nx, o₁, rfl, ?_, F₃, N₃, nd₃, hJ₃, hlt', rfl⟩
        exact hSt _ h₁ h9 o₁ nx hst₁ ho₁ (N₃ _ (.head _)).1 F₃.keep (fun p hp => (N₃ p (.tail _ hp)).1) (hS _ _ _ hJ₃)
      cases f with
      | ret v => exact h₃
      | brk => exact h₃
      | cont => exact fin' h₃
      | next => exact fin' h₃
    · have hin : i = n := by omega
      subst hin
      refine W.done _ _ _ hst' fun h₁ tk₁ hk₁ => wpAny_execs_nil ?_
      obtain ⟨F₁, N₁⟩ := next h₁ hk₁
      exact fin h₁ tk₁ m' nw hJ F₁ N₁ hnd.2
  · rcases List.mem_cons.mp hp with rfl | hp
    · exact ⟨hoI0, Ne.symm hIL, hI⟩
    · exact ⟨up _ _ (N p hp).1, (N p hp).2⟩
end
section
variable {prog : Program} {w : World} {A : Around} {E : Value → Shared → Prop} {s : Shared} {g : Heap}
theorem srcN {r : Addr} {t u v : Tok} {n : Nat} {Q : Value → Shared → Prop} (hh : A.handled = none) (hr : IsRange s.heap r 0 (n : Int) 1 t u v) (hn : n ≤ 1000)
    (h : ∀ it s₂, Src prog w A g s n (fun i v => i < n ∧ ∃ t, v = .int (i : Int) t) (fun _ => True) it s₂ → Q it s₂) : wpAny (model prog w) A (pyIter (.ref r)) Q E s := by
  refine srcRange (g := g) (n := n) hh hr (small_one (by omega) (by omega) (by omega) (by omega)) ?_ fun it s₂ x => h it s₂ ?_
  · have := rangeSize_nat 0 (n : Int)
    simpa using this
  · obtain ⟨I, fp, St, oI, a, b, c, W, r1, r2, r3, r4⟩ := x
    exact ⟨I, fp, St, oI, a, b, c, ⟨W.sub, W.frame, fun i s Q E hi st hQ => W.item i s Q E hi st fun v h' tk ⟨t, e⟩ => hQ v h' tk ⟨hi, t, by rw [e, Int.zero_add]⟩, W.done, W.self⟩, r1, r2, r3, r4⟩
end
section
variable {prog : Program} {w : World} {A : Around} {E : Value → Shared → Prop} {s : Shared} {t u : Tok} {Q : Value → Shared → Prop}
theorem pow2one {a : Nat} (hk : a ≤ 1000) (h : Q (.int ((2 : Int) ^ a) s.toks) { s with toks := s.toks + 1 }) : wpAny (model prog w) A (binaryOp .Pow (.int 2 t) (.int (a : Int) u)) Q E s :=
  pow_int_small (by omega) (by omega) (by decide) (by rw [Int.toNat_natCast]; exact h)
theorem fdiv2 {a : Int} {k : Nat} (hk : k ≤ 29) (h : Q (.int (a / 2 ^ k) s.toks) { s with toks := s.toks + 1 }) : wpAny (model prog w) A (binaryOp .FloorDiv (.int a t) (.int ((2 : Int) ^ k) u)) Q E s := by
  have h0 : (0 : Int) < 2 ^ k := Int.pow_pos (by decide)
  refine floordiv_int (Int.ne_of_gt h0) ?_ (.inl (PyProof.noPylong_small ?_))
  · rw [Int.fdiv_eq_ediv_of_nonneg _ (Int.le_of_lt h0)]; exact h
  · rw [Int.natAbs_pow]
    exact Nat.lt_of_le_of_lt (Nat.pow_le_pow_right (by decide) hk) (by decide)
theorem modP {a b : Int} (hb : 0 < b) (h : Q (.int (a % b) s.toks) { s with toks := s.toks + 1 }) : wpAny (model prog w) A (binaryOp .Mod (.int a t) (.int b u)) Q E s :=
  mod_int' (Int.ne_of_gt hb) (by rw [Int.fmod_eq_emod_of_nonneg _ (Int.le_of_lt hb)]; exact h)
end
section
variable {prog : Program} {w : World} {A : Around} {E : Value → Shared → Prop} {s : Shared} {env : Env} {g : Heap} {L : Addr} {m : Str → Option Value} {elt iter : Expr} {x y : Str} {px py : Pos} {scope : Scope} {cl : List (Str × Addr)} {pos spos : Pos} {Q : Flow → Shared → Prop}
theorem assignT {ct : Expr} (F₀ : Fr g L s.heap m)
    (hsw : swapsWith (.ListComp elt [⟨.Name x px, iter, [ct], 0⟩] scope pos) (some (.Name y py)) spos.line env = pure true)
    (hclos : closureFor scope env = pure cl) (hcell : ∀ z ∈ scope.names, z.2 ≠ .cell) (hkind : scope.kind = .function)
    (hnames : ∀ z ∈ scope.names, z.2 = .local → scope.names.lookup z.1 = some .local) (hx : scope.names.lookup x = some .local)
    (h : wpAny (model prog w) A (eval iter env) (fun xv s₁ => wpAny (model prog w) A (pyIter xv)
      (CompAtT prog w A g L m (fun C => compEnvC scope cl C env) ct elt x fun D C s' => compPost (model prog w) A E (some (assign (.Name y py) env)) (fun _ s' => Q .next s') (.ref D) C (.ok .next) s') E s₁) E s)
    (hs : ∀ x, foldedSetIterable iter env x = pure x := by intro _; rfl) :
    wpAny (model prog w) A (exec (.Assign [.Name y py] (.ListComp elt [⟨.Name x px, iter, [ct], 0⟩] scope pos) spos) env) Q E s := by
  rw [exec_Assign_Name_used _ _ _ _ hsw]
  refine wpAny_bind (wpAny_standAt (wpAny_bind ?_))
  show wpAny _ A (do let _ ← comprehension (.ListComp elt [⟨.Name x px, iter, [ct], 0⟩] scope pos) scope env _ (newList []) false (eval iter env) (some (assign (.Name y py) env))) _ _ s
  exact wpAny_bind (wpAny_mono (compT (use := some (assign (.Name y py) env)) (Q := fun _ s' => Q .next s') F₀ hclos hcell hkind hnames hx h hs) (fun _ s' hq => wpAny_pure (wpAny_pure hq)) fun _ _ e => e)
/-- a local name takes the comprehension's value -/
theorem useLocal {K : List Value → List (Addr × Obj) → Prop} {Q : Value → Shared → Prop}
    (hL : env.locals = L) (hy : env.kindOf y = some .local) (hp : (env.scope.kind == .class || (env.scope.kind == .module && env.locals != env.globals)) = false)
    (done : ∀ D h tk ys nw, K ys nw → Fr g L h (fun z => if z = y then some (.ref D) else m z) → News g L h ((D, listOf ys.toArray ys.length) :: nw) → Nod ((D, listOf ys.toArray ys.length) :: nw) → Q .none { s with heap := h, toks := tk }) :
    FinAt g L m s K fun D C s' => compPost (model prog w) A E (some (assign (.Name y py) env)) Q (.ref D) C (.ok .next) s' := by
  subst hL
  refine finUse fun D C oC h tk ys nw hK F N nd => wpAny_assign_Name (wpAny_storeName_local hy F.ns (fun h' hn hs => ⟨h', _, _, _, rfl, F.set hn hs, N.set hs, nd, fun h'' F' N' nd' => done D h'' _ ys nw hK F' N' nd'⟩) hp)
end
section
variable {prog : Program} {w : World} {A : Around} {E : Value → Shared → Prop} {s : Shared} {t u : Tok} {Q : Value → Shared → Prop} {a c : Int}
theorem eqIntB (h : ∀ b, b = decide (a = c) → Q (.bool b) s) : wpAny (model prog w) A (compareOp .Eq (.int a t) (.int c u)) Q E s :=
  PyProof.Rows.eq_int (h _ (by rw [Bool.eq_iff_iff]; simp))
end
section
variable {prog : Program} {w : World} {A : Around} {E : Value → Shared → Prop} {s : Shared} {g : Heap} {L : Addr} {m : Str → Option Value} {news : List (Addr × Obj)} {Q : Value → Shared → Prop}
theorem addListsF {l b : Addr} {vs ws : List Value} {n k : Nat} (F : Fr g L s.heap m) (N : News g L s.heap news) (nd : Nod news) (hl : s.heap.get? l = some (listOf vs.toArray n)) (hb : s.heap.get? b = some (listOf ws.toArray k)) (hsz : vs.length + ws.length ≤ 16777216)
    (h : ∀ D h', Fr g L h' m → News g L h' ((D, listOf (vs ++ ws).toArray 0) :: news) → Nod ((D, listOf (vs ++ ws).toArray 0) :: news) → Q (.ref D) { s with heap := h' }) : wpAny (model prog w) A (binaryOp .Add (.ref l) (.ref b)) Q E s :=
  add_lists F N (isListH hl) (isListH hb) (fun h' F' N' => h _ h' F' N' (nodCons nd fun q hq => Heap.lt_size (N q hq).1)) (by rw [sizeLine_eq]; exact hsz)
theorem sliceRevF {value slice : PySem.Expr} {l : Addr} {vs : List Value} {n : Nat} {u : Tok} {ops : List Value} (F : Fr g L s.heap m) (N : News g L s.heap news) (nd : Nod news) (hl : s.heap.get? l = some (listOf vs.toArray n)) (hsz : vs.length ≤ 16777216)
    (h : ∀ D h', Fr g L h' m → News g L h' ((D, listOf vs.reverse.toArray 0) :: news) → Nod ((D, listOf vs.reverse.toArray 0) :: news) → Q (.ref D) { s with heap := h' })
    (hs : subscripted slice false (.ref l) (.ref s.heap.objs.size) = operate ops (getItem (.ref l) (.ref s.heap.objs.size)) := by with_unfolding_all rfl)
    (ht : ∀ r, letTemporaryGo value (.ref l) r = pure () := by intro _; with_unfolding_all rfl) :
    wpAny (model prog w) A (subscriptTail value slice (.ref l) (.ref s.heap.objs.size)) Q E { s with heap := s.heap.push { cls := .type "slice", data := .fields #[.none, .none, .int (-1) u] } } := by
  refine slice_list3 (lo := none) (hi := none) (st := some (-1)) F N (isListH hl) .none .none (.int _ _) (by simp) (fun h' F' N' => ?_) hs ht (by rw [sizeLine_eq]; simpa using hsz)
  rw [krv_pick] at N'
  exact h _ h' F' N' (nodCons nd fun q hq => Nat.lt_succ_of_lt (Heap.lt_size (N q hq).1))
end

end
section
open PyProof.Rows.LCg PyProof.Rows.LCt PyProof.V PySem.Spec
section
variable {prog : Program} {w : World} {A : Around} {E : Value → Shared → Prop} {R : Result → Shared → Prop} {s : Shared} {elt target target2 iter iter2 ct : Expr} {scope : Scope} {pos : Pos} {it acc : Value} {env : Env}
theorem turn20 : compTurn (.ListComp elt [⟨target, iter, [], 0⟩, ⟨target2, iter2, [ct], 0⟩] scope pos) 0 it acc env = (do
      standAt iter.pos
      match ← pyNext it with
      | none => pure (.done .next)
      | some v =>
        letOwnedTupleGo target it v
        assign target env v
        let mut ok := true
        for c in ([] : List Expr) do
          if ok then ok ← isTrue c env (eval c env)
        if ok then
          let x ← eval iter2 env
          standAt iter2.pos
          let x ← foldedSetIterable iter2 env x
          let _ ← runOwn (.compStart (.ListComp elt [⟨target, iter, [], 0⟩, ⟨target2, iter2, [ct], 0⟩] scope pos) 1 (← holding [x] (pyIter x)) acc env) env
        again (.compLoop (.ListComp elt [⟨target, iter, [], 0⟩, ⟨target2, iter2, [ct], 0⟩] scope pos) 0 it acc env)) := by rfl
theorem turn21 : compTurn (.ListComp elt [⟨target, iter, [], 0⟩, ⟨target2, iter2, [ct], 0⟩] scope pos) 1 it acc env = (do
      standAt iter2.pos
      match ← pyNext it with
      | none => pure (.done .next)
      | some v =>
        letOwnedTupleGo target2 it v
        assign target2 env v
        let mut ok := true
        for c in [ct] do
          if ok then ok ← isTrue c env (eval c env)
        if ok then
          (do let _ ← call (.builtin "list.append") [acc, ← eval elt env])
        again (.compLoop (.ListComp elt [⟨target, iter, [], 0⟩, ⟨target2, iter2, [ct], 0⟩] scope pos) 1 it acc env)) := by rfl
theorem loop21 (I : Nat → Shared → Prop)
    (turn : ∀ n s, I n s → wpAny (model prog w) A (pyNext it) (fun r s₁ => match r with
      | none => R (.ok .next) s₁
      | some v => wpAny (model prog w) A (assign target2 env v) (fun _ s₂ =>
          wpAny (model prog w) A (isTrue ct env (eval ct env)) (fun ok s₃ =>
            if ok = true then wpAny (model prog w) A (eval elt env) (fun x s₄ =>
              wpAny (model prog w) A (call (.builtin "list.append") [acc, x]) (fun _ s₅ => ∃ m, m < n ∧ I m s₅) (notedBy (model prog w) A env fun e s' => R (.error e) s') s₄) (notedBy (model prog w) A env fun e s' => R (.error e) s') s₃
            else ∃ m, m < n ∧ I m s₃) (notedBy (model prog w) A env fun e s' => R (.error e) s') s₂) (notedBy (model prog w) A env fun e s' => R (.error e) s') s₁) (notedBy (model prog w) A env fun e s' => R (.error e) s') s)
    (n : Nat) (h : I n s) (ht : ∀ v, letOwnedTupleGo target2 it v = pure () := by intro _; rfl) :
    codeAny (model prog w) A (.compLoop (.ListComp elt [⟨target, iter, [], 0⟩, ⟨target2, iter2, [ct], 0⟩] scope pos) 1 it acc env) R s := by
  refine codeAny_loop rfl I (fun n s hI => ?_) n h
  show wpAny _ A ((compTurn (.ListComp elt [⟨target, iter, [], 0⟩, ⟨target2, iter2, [ct], 0⟩] scope pos) 1 it acc env).onRaise (fun x => do noteFrame x env; theTreesLotGoes x)) _ _ s
  refine wpAny_noted ?_
  rw [turn21]
  refine wpAny_bind (wpAny_standAt (wpAny_bind (wpAny_mono (turn n s hI) (fun r s₁ h₁ => ?_) fun _ _ h' => h')))
  cases r with
  | none => exact wpAny_pure h₁
  | some v =>
    refine wpAny_bind (wpAny_of_eq (ht v) ?_)
    refine wpAny_bind (wpAny_mono h₁ (fun _ s₂ h₂ => wpAny_bind (wpAny_tests_one (wpAny_mono h₂ (fun ok s₃ h₃ => ?_) fun _ _ h' => h'))) fun _ _ h' => h')
    cases ok with
    | false => exact wpAny_pure ⟨rfl, h₃⟩
    | true =>
      exact wpAny_bind (wpAny_bind (wpAny_mono h₃ (fun x s₄ h₄ => wpAny_bind (wpAny_mono h₄ (fun _ s₅ h₅ => wpAny_pure (wpAny_pure ⟨rfl, h₅⟩)) fun _ _ h' => h')) fun _ _ h' => h'))
theorem loop20 (I : Nat → Shared → Prop)
    (turn : ∀ n s, I n s → wpAny (model prog w) A (pyNext it) (fun r s₁ => match r with
      | none => R (.ok .next) s₁
      | some v => wpAny (model prog w) A (assign target env v) (fun _ s₂ =>
          wpAny (model prog w) A (eval iter2 env) (fun x s₃ => wpAny (model prog w) A (pyIter x) (fun it2 s₄ =>
            codeAny (model prog w) A (.compStart (.ListComp elt [⟨target, iter, [], 0⟩, ⟨target2, iter2, [ct], 0⟩] scope pos) 1 it2 acc env)
              (fun r s' => match r with | .ok _ => ∃ m, m < n ∧ I m s' | .error e => cameBackBy (model prog w) A env (notedBy (model prog w) A env fun e s' => R (.error e) s') e s') s₄)
            (notedBy (model prog w) A env fun e s' => R (.error e) s') s₃) (notedBy (model prog w) A env fun e s' => R (.error e) s') s₂) (notedBy (model prog w) A env fun e s' => R (.error e) s') s₁) (notedBy (model prog w) A env fun e s' => R (.error e) s') s)
    (n : Nat) (h : I n s) (ht : ∀ v, letOwnedTupleGo target it v = pure () := by intro _; rfl) (hs : ∀ x, foldedSetIterable iter2 env x = pure x := by intro _; rfl) :
    codeAny (model prog w) A (.compLoop (.ListComp elt [⟨target, iter, [], 0⟩, ⟨target2, iter2, [ct], 0⟩] scope pos) 0 it acc env) R s := by
  refine codeAny_loop rfl I (fun n s hI => ?_) n h
  show wpAny _ A ((compTurn (.ListComp elt [⟨target, iter, [], 0⟩, ⟨target2, iter2, [ct], 0⟩] scope pos) 0 it acc env).onRaise (fun x => do noteFrame x env; theTreesLotGoes x)) _ _ s
  refine wpAny_noted ?_
  rw [turn20]
  refine wpAny_bind (wpAny_standAt (wpAny_bind (wpAny_mono (turn n s hI) (fun r s₁ h₁ => ?_) fun _ _ h' => h')))
  cases r with
  | none => exact wpAny_pure h₁
  | some v =>
    refine wpAny_bind (wpAny_of_eq (ht v) ?_)
    refine wpAny_bind (wpAny_mono h₁ (fun _ s₂ h₂ => wpAny_bind (wpAny_tests_nil ?_)) fun _ _ h' => h')
    simp only [if_true]
    refine wpAny_bind (wpAny_mono h₂ (fun x s₃ h₃ => wpAny_bind (wpAny_standAt (wpAny_bind (wpAny_of_eq (hs x) (wpAny_bind (wpAny_holding (wpAny_mono h₃ (fun it2 s₄ h₄ => ?_) fun _ _ h' => h'))))))) fun _ _ h' => h')
    refine wpAny_bind (wpAny_mono (wpAny_runOwn (h := none) (Q := fun _ s' => ∃ m, m < n ∧ I m s') (codeAny_mono h₄ fun r s' hr => ?_)) (fun _ s₅ h₅ => ?_) fun _ _ h' => h')
    · cases r with
      | ok f => exact hr
      | error e => exact hr
    · exact wpAny_pure ⟨rfl, h₅⟩
theorem start21
    (h0 : codeAny (model prog w) A (.compLoop (.ListComp elt [⟨target, iter, [], 0⟩, ⟨target2, iter2, [ct], 0⟩] scope pos) 1 it acc env) R s)
    (h : wpAny (model prog w) A (pyIter it) (fun it' s' => codeAny (model prog w) A (.compLoop (.ListComp elt [⟨target, iter, [], 0⟩, ⟨target2, iter2, [ct], 0⟩] scope pos) 1 it' acc env) R s')
      (notedBy (model prog w) A env fun x s' => R (.error x) s') s) :
    codeAny (model prog w) A (.compStart (.ListComp elt [⟨target, iter, [], 0⟩, ⟨target2, iter2, [ct], 0⟩] scope pos) 1 it acc env) R s := by
  refine codeAny_of_tree ?_
  show wpAny _ _ ((compStart (.ListComp elt [⟨target, iter, [], 0⟩, ⟨target2, iter2, [ct], 0⟩] scope pos) 1 it acc env).onRaise (fun x => do noteFrame x env; standAt theWindowsPlace)) _ _ s
  refine wpAny_notedAt ?_
  unfold compStart
  show wpAny _ _ (ask >>= _) _ _ s
  refine wpAny_bind (wpAny_askSetting (wpAny_ite ?_))
  split
  · first
      | exact wpAny_bind (wpAny_pure (wpAny_pure (And.intro rfl h0)))
      | exact wpAny_pure (And.intro rfl h0)
  · first
      | exact wpAny_bind (wpAny_rule (wpAny_bind (wpAny_standAt (wpAny_bind (wpAny_mono h (fun it' s' h' => wpAny_pure (And.intro rfl h')) fun _ _ x => x)))))
      | (refine wpAny_bind (wpAny_rule ?_); show wpAny _ _ (standAt iter2.pos >>= _) _ _ s; exact wpAny_bind (wpAny_standAt (wpAny_bind (wpAny_mono h (fun it' s' h' => wpAny_pure (And.intro rfl h')) fun _ _ x => x))))
end

end
section
open PyProof.Rows.LCg PyProof.Rows.LCt PyProof.V PySem.Spec
section
variable {prog : Program} {w : World} {A : Around} {E : Value → Shared → Prop} {s : Shared} {env : Env} {g : Heap} {L : Addr} {m : Str → Option Value}
inductive End2 (g : Heap) (L : Addr) (m : Str → Option Value) (s₁ : Shared) (I2 : Addr) (oI2 : Obj) (I : Addr) (oI : Obj) (C : Addr) (oC : Obj) (D : Addr) (oD : Obj) (K : List (Addr × Obj) → Prop) (s₂ : Shared) : Prop
  | mk (h' : _) (tk : _) (nw' : _) (a0 : s₂ = { s₁ with heap := h', toks := tk }) (a1 : Fr g L h' m) (a2 : News g L h' ((I2, oI2) :: (I, oI) :: (C, oC) :: (D, oD) :: nw')) (a3 : Nod ((I2, oI2) :: (I, oI) :: (C, oC) :: (D, oD) :: nw')) (a4 : K nw') : End2 g L m s₁ I2 oI2 I oI C oC D oD K s₂
def InTurn (prog : Program) (w : World) (A : Around) (g : Heap) (L : Addr) (m : Str → Option Value) (cenv : Env) (ct elt : Expr) (x y : Str) (v : Value) (I : Addr) (oI : Obj) (C D : Addr) (s₀ : Shared) (P2 : Nat → Value → Prop) (K : Nat → List Value → List (Addr × Obj) → Prop) : Prop :=
  ∀ j v2 ys nw I2 oI2 oC m₂ h tk (E' : Value → Shared → Prop), P2 j v2 → K j ys nw → NsObj oC m₂ → m₂ x = some v → m₂ y = some v2 → Fr g L h m →
    News g L h ((I2, oI2) :: (I, oI) :: (C, oC) :: (D, listOf ys.toArray ys.length) :: nw) → Nod ((I2, oI2) :: (I, oI) :: (C, oC) :: (D, listOf ys.toArray ys.length) :: nw) →
    wpAny (model prog w) A (isTrue ct cenv (eval ct cenv)) (fun ok s' => if ok = true then
        wpAny (model prog w) A (eval elt cenv) (fun z => End2 g L m { s₀ with heap := h, toks := tk } I2 oI2 I oI C oC D (listOf ys.toArray ys.length) (K (j + 1) (ys ++ [z]))) E' s'
      else End2 g L m { s₀ with heap := h, toks := tk } I2 oI2 I oI C oC D (listOf ys.toArray ys.length) (K (j + 1) ys) s') E' { s₀ with heap := h, toks := tk }
/-- the inner loop of a turn -/
inductive In2 (prog : Program) (w : World) (A : Around) (g : Heap) (L : Addr) (m : Str → Option Value) (cenv : Env) (ct elt : Expr) (x y : Str) (v : Value) (I : Addr) (oI : Obj) (C : Addr) (D : Addr) (s₁ : Shared) (ys : List Value) (J' : List Value → List (Addr × Obj) → Prop) (it2 : Value) (s₂ : Shared) : Prop
  | mk (s₀ : Shared) (n2 : Nat) (P2 : Nat → Value → Prop) (S2 : List (Addr × Obj) → Prop) (K : Nat → List Value → List (Addr × Obj) → Prop) (nw : List (Addr × Obj)) (oC : Obj) (m₂ : Str → Option Value) (a0 : Src prog w A g s₀ n2 P2 S2 it2 s₂) (a1 : (∃ h tk, s₀ = { s₁ with heap := h, toks := tk })) (a2 : Fr g L s₀.heap m) (a3 : NsObj oC m₂) (a4 : m₂ x = some v) (a5 : News g L s₀.heap ((I, oI) :: (C, oC) :: (D, listOf ys.toArray ys.length) :: nw)) (a6 : Nod ((I, oI) :: (C, oC) :: (D, listOf ys.toArray ys.length) :: nw)) (a7 : K 0 ys nw) (a8 : (∀ j ys nw, K j ys nw → S2 nw)) (a9 : (∀ j ys nw, K j ys nw → ys.length ≤ 100000)) (a10 : InTurn prog w A g L m cenv ct elt x y v I oI C D s₀ P2 K) (a11 : (∀ ys nw, K n2 ys nw → J' ys nw)) : In2 prog w A g L m cenv ct elt x y v I oI C D s₁ ys J' it2 s₂
inductive Loop2i (g : Heap) (L : Addr) (m : Str → Option Value) (s₁ : Shared) (h0 : Heap) (I C D : Addr) (oI : Obj) (x : Str) (v : Value) (n2 : Nat) (St : Nat → Heap → Prop) (K : Nat → List Value → List (Addr × Obj) → Prop) (k : Nat) (s' : Shared) : Prop
  | mk (h' : _) (tk : _) (j : _) (ys' : _) (nw : _) (oC : _) (m₂ : _) (oI2 : _) (a0 : s' = { s₁ with heap := h', toks := tk }) (a1 : j ≤ n2) (a2 : k = n2 + 1 - j) (a3 : St j h') (a4 : Fr g L h' m) (a5 : NsObj oC m₂) (a6 : m₂ x = some v) (a7 : News g L h' ((h0.objs.size, oI2) :: (I, oI) :: (C, oC) :: (D, listOf ys'.toArray ys'.length) :: nw)) (a8 : Nod ((h0.objs.size, oI2) :: (I, oI) :: (C, oC) :: (D, listOf ys'.toArray ys'.length) :: nw)) (a9 : K j ys' nw) : Loop2i g L m s₁ h0 I C D oI x v n2 St K k s'
theorem inner2 {elt target iter iter2 ct : Expr} {x y : Str} {py : Pos} {scope : Scope} {pos : Pos} {cl : List (Str × Addr)} {v it2 : Value} {I C D : Addr} {oI : Obj} {s₁ s₂ : Shared} {ys : List Value} {J' : List Value → List (Addr × Obj) → Prop} {R : Result → Shared → Prop}
    (hkind : scope.kind = .function) (hy : scope.names.lookup y = some .local) (hxy : x ≠ y)
    (h : In2 prog w A g L m (compEnvC scope cl C env) ct elt x y v I oI C D s₁ ys J' it2 s₂)
    (hR : ∀ h' tk ys' nw oC m₂, J' ys' nw → Fr g L h' m → NsObj oC m₂ → News g L h' ((I, oI) :: (C, oC) :: (D, listOf ys'.toArray ys'.length) :: nw) → Nod ((I, oI) :: (C, oC) :: (D, listOf ys'.toArray ys'.length) :: nw) → R (.ok .next) { s₁ with heap := h', toks := tk }) :
    codeAny (model prog w) A (.compStart (.ListComp elt [⟨target, iter, [], 0⟩, ⟨.Name y py, iter2, [ct], 0⟩] scope pos) 1 it2 (.ref D) (compEnvC scope cl C env)) R s₂ := by
  obtain ⟨s₀, n2, P2, S2, K, nw, oC, m₂, ⟨I2, fp, St, o2, rfl, rfl, rfl, W, hob, hSt, hst, hfp⟩, ⟨h0, tk0, rfl⟩, F, hC, hx, N, nd, hK, hS, hlen, turn, fin⟩ := h
  dsimp only at *
  have up : ∀ b o, h0.get? b = some o → (h0.push o2).get? b = some o := fun b o e => Heap.get?_push_of_some _ e
  have hI2 : g.get? h0.objs.size = none := by
    cases e : g.get? h0.objs.size with
    | none => rfl
    | some o => exact absurd (Heap.lt_size (F.keep _ _ e)) (Nat.lt_irrefl _)
  have hI2L : L ≠ h0.objs.size := Nat.ne_of_lt F.ns.lt
  obtain ⟨o20, ho20⟩ := hob _ _ hst
  have loop : ∀ s₃ : Shared, s₃ = { s₁ with heap := h0.push o2, toks := tk0 } →
      codeAny (model prog w) A (.compLoop (.ListComp elt [⟨target, iter, [], 0⟩, ⟨.Name y py, iter2, [ct], 0⟩] scope pos) 1 (.ref h0.objs.size) (.ref D) (compEnvC scope cl C env)) R s₃ := by
    rintro s₃ rfl
    refine loop21 (Loop2i g L m s₁ h0 I C D oI x v n2 St K) ?_ (n2 + 1)
      ⟨h0.push o2, tk0, 0, ys, nw, oC, m₂, o20, rfl, Nat.zero_le _, rfl, hst, F.keeps up, hC, hx, fun p hp => ?_, nodCons nd fun p hp => Heap.lt_size (N p hp).1, hK⟩
    · rintro k s' ⟨h', tk, j, ys', nw', oC', m₂', oI2, rfl, hj, rfl, hst', F', hC', hx', N', nd', hK'⟩
      have hnd := nod_cons.mp nd'
      by_cases hlt : j < n2
      · refine W.item j _ _ _ hlt hst' fun v2 h₂ tk₂ hPv hst₂ hk₂ => ?_
        have F₂ := fr_but F' hk₂ hI2L hI2
        have N₂ := news_but (fun p hp => N' p (.tail _ hp)) hk₂ hnd.1
        obtain ⟨oI2', hoI2'⟩ := hob _ _ hst₂
        have hCm := N₂ (C, oC') (.tail _ (.head _))
        refine wpAny_assign_Name (wpAny_storeName_local (lookup_relabel_local hy) (hC'.ns hCm.1) (fun h₃ hn₃ hs₃ => ?_) (by simp [compEnvC, relabel, hkind]))
        have hCI2 : C ≠ h0.objs.size := hnd.1 (C, oC') (.tail _ (.head _))
        have hst₃ : St (j + 1) h₃ := by
          refine hSt _ h₂ h₃ oI2' nw' hst₂ hoI2' (hs₃.extBut _ _ (Ne.symm hCI2) hoI2') (F₂.change hs₃ hCm.2.1 hCm.2.2).keep (fun p hp => ?_) (hS _ _ _ hK')
          have h1 := (nod_cons.mp (nod_cons.mp hnd.2).2).1 p (.tail _ hp)
          exact hs₃.extBut _ _ h1 (N₂ p (.tail _ (.tail _ (.tail _ hp)))).1
        obtain ⟨oC₃, heC, hoC⟩ := ns_obj hn₃
        have F₃ : Fr g L h₃ m := F₂.change hs₃ hCm.2.1 hCm.2.2
        have N₃ : News g L h₃ ((h0.objs.size, oI2') :: (I, oI) :: (C, oC₃) :: (D, listOf ys'.toArray ys'.length) :: nw') := fun p hp => by
          rcases List.mem_cons.mp hp with rfl | hp
          · exact ⟨hs₃.extBut _ _ (Ne.symm hCI2) hoI2', Ne.symm hI2L, hI2⟩
          · rcases List.mem_cons.mp hp with rfl | hp
            · have q := N₂ (I, oI) (.head _)
              exact ⟨hs₃.extBut _ _ (fun e => (nod_cons.mp hnd.2).1 (C, oC') (.head _) (by exact e.symm)) q.1, q.2⟩
            · rcases List.mem_cons.mp hp with rfl | hp
              · exact ⟨heC, hCm.2⟩
              · have q := N₂ p (.tail _ (.tail _ hp))
                exact ⟨hs₃.extBut _ _ ((nod_cons.mp (nod_cons.mp hnd.2).2).1 p hp) q.1, q.2⟩
        have nd₃ : Nod ((h0.objs.size, oI2') :: (I, oI) :: (C, oC₃) :: (D, listOf ys'.toArray ys'.length) :: nw') := nd'.of_map rfl
        refine wpAny_mono (turn j v2 ys' nw' _ oI2' oC₃ _ h₃ _ _ hPv hK' hoC (by rw [if_neg hxy]; exact hx') (by simp) F₃ N₃ nd₃) (fun ok s₄ h₄ => ?_) fun _ _ e => e
        cases ok with
        | true =>
          simp only [if_true] at h₄ ⊢
          refine wpAny_mono h₄ (fun z s₅ h₅ => ?_) fun _ _ e => e
          obtain ⟨h₄, tk₄, nw₄, rfl, F₄, N₄, nd₄, hK₄⟩ := h₅
          have hD := N₄ (D, _) (.tail _ (.tail _ (.tail _ (.head _))))
          have hst₄ : St (j + 1) h₄ := hSt _ h₃ h₄ oI2' nw₄ hst₃ (N₃ _ (.head _)).1 (N₄ _ (.head _)).1 F₄.keep (fun p hp => (N₄ p (.tail _ (.tail _ (.tail _ (.tail _ hp))))).1) (hS _ _ _ hK₄)
          have hndD := nod_cons.mp nd₄
          have hndI := nod_cons.mp hndD.2
          have hndC := nod_cons.mp hndI.2
          have hndL := nod_cons.mp hndC.2
          refine append_at (hsz := by have := hlen _ _ _ hK'; rw [sizeLine_eq, List.size_toArray]; omega) hD.1 fun h₅ hs₅ hD₅ => ?_
          refine ⟨n2 + 1 - (j + 1), by omega, h₅, tk₄, j + 1, ys' ++ [z], nw₄, oC₃, _, oI2', rfl, hlt, rfl, ?_, F₄.change hs₅ hD.2.1 hD.2.2, hoC, by rw [if_neg hxy]; exact hx', ?_, nd₄.of_map rfl, hK₄⟩
          · refine hSt _ h₄ h₅ oI2' nw₄ hst₄ (N₄ _ (.head _)).1 (hs₅.extBut _ _ (fun e => hndD.1 (D, listOf ys'.toArray ys'.length) (.tail _ (.tail _ (.head _))) e.symm) (N₄ _ (.head _)).1) (F₄.change hs₅ hD.2.1 hD.2.2).keep (fun p hp => ?_) (hS _ _ _ hK₄)
            exact hs₅.extBut _ _ (hndL.1 p hp) (N₄ p (.tail _ (.tail _ (.tail _ (.tail _ hp))))).1
          · intro p hp
            rcases List.mem_cons.mp hp with rfl | hp
            · have q := N₄ (h0.objs.size, oI2') (.head _)
              exact ⟨hs₅.extBut _ _ (fun e => hndD.1 (D, listOf ys'.toArray ys'.length) (.tail _ (.tail _ (.head _))) e.symm) q.1, q.2⟩
            · rcases List.mem_cons.mp hp with rfl | hp
              · have q := N₄ (I, oI) (.tail _ (.head _))
                exact ⟨hs₅.extBut _ _ (fun e => hndI.1 (D, listOf ys'.toArray ys'.length) (.tail _ (.head _)) e.symm) q.1, q.2⟩
              · rcases List.mem_cons.mp hp with rfl | hp
                · have q := N₄ (C, oC₃) (.tail _ (.tail _ (.head _)))
                  exact ⟨hs₅.extBut _ _ (fun e => hndC.1 (D, listOf ys'.toArray ys'.length) (.head _) e.symm) q.1, q.2⟩
                · rcases List.mem_cons.mp hp with rfl | hp
                  · exact ⟨hD₅.trans (congrArg some (lst_snoc ys' z)), hD.2⟩
                  · have q := N₄ p (.tail _ (.tail _ (.tail _ (.tail _ hp))))
                    exact ⟨hs₅.extBut _ _ (hndL.1 p hp) q.1, q.2⟩
        | false =>
          simp only [Bool.false_eq_true, if_false] at h₄ ⊢
          obtain ⟨h₄, tk₄, nw₄, rfl, F₄, N₄, nd₄, hK₄⟩ := h₄
          have hst₄ : St (j + 1) h₄ := hSt _ h₃ h₄ oI2' nw₄ hst₃ (N₃ _ (.head _)).1 (N₄ _ (.head _)).1 F₄.keep (fun p hp => (N₄ p (.tail _ (.tail _ (.tail _ (.tail _ hp))))).1) (hS _ _ _ hK₄)
          exact ⟨n2 + 1 - (j + 1), by omega, h₄, tk₄, j + 1, ys', nw₄, oC₃, _, oI2', rfl, hlt, rfl, hst₄, F₄, hoC, by rw [if_neg hxy]; exact hx', N₄, nd₄, hK₄⟩
      · obtain rfl : j = n2 := Nat.le_antisymm hj (Nat.not_lt.mp hlt)
        refine W.done _ _ _ hst' fun h₂ tk₂ hk₂ => ?_
        have F₂ := fr_but F' hk₂ hI2L hI2
        have N₂ := news_but (fun p hp => N' p (.tail _ hp)) hk₂ hnd.1
        exact hR h₂ tk₂ ys' nw' oC' m₂' (fin _ _ hK') F₂ hC' N₂ hnd.2
    · rcases List.mem_cons.mp hp with rfl | hp
      · exact ⟨ho20, Ne.symm hI2L, hI2⟩
      · exact ⟨up _ _ (N p hp).1, (N p hp).2⟩
  exact start21 (loop _ rfl) (W.self 0 _ _ _ hst (loop _ rfl))
def Turn2 (prog : Program) (w : World) (A : Around) (g : Heap) (L : Addr) (m : Str → Option Value) (cenv : Addr → Env) (iter2 ct elt : Expr) (x y : Str) (s : Shared) (P : Nat → Value → Prop) (J : Nat → List Value → List (Addr × Obj) → Prop) : Prop :=
  ∀ i v ys nw I oI C oC D m₂ h tk (E' : Value → Shared → Prop), P i v → J i ys nw → NsObj oC m₂ → m₂ x = some v → Fr g L h m → News g L h ((I, oI) :: (C, oC) :: (D, listOf ys.toArray ys.length) :: nw) → Nod ((I, oI) :: (C, oC) :: (D, listOf ys.toArray ys.length) :: nw) →
    wpAny (model prog w) A (eval iter2 (cenv C)) (fun xv s' => wpAny (model prog w) A (pyIter xv)
      (In2 prog w A g L m (cenv C) ct elt x y v I oI C D { s with heap := h, toks := tk } ys (J (i + 1))) E' s') E' { s with heap := h, toks := tk }
inductive CompAt2 (prog : Program) (w : World) (A : Around) (g : Heap) (L : Addr) (m : Str → Option Value) (cenv : Addr → Env) (iter2 ct elt : Expr) (x y : Str) (Fin : Addr → Addr → Shared → Prop) (it : Value) (s₂ : Shared) : Prop
  | mk (s₁ : Shared) (n : Nat) (P : Nat → Value → Prop) (S : List (Addr × Obj) → Prop) (news : List (Addr × Obj)) (J : Nat → List Value → List (Addr × Obj) → Prop) (a0 : Src prog w A g s₁ n P S it s₂) (a1 : Fr g L s₁.heap m) (a2 : News g L s₁.heap news) (a3 : Nod news) (a4 : J 0 [] news) (a5 : (∀ i ys nw, J i ys nw → S nw)) (a6 : Turn2 prog w A g L m cenv iter2 ct elt x y s₁ P J) (a7 : FinAt g L m s₁ (J n) Fin) : CompAt2 prog w A g L m cenv iter2 ct elt x y Fin it s₂
inductive Loop2o (g : Heap) (L : Addr) (m : Str → Option Value) (hp0 H1 H2 : Heap) (gn0 : Array GenState) (dr0 : Drawn) (os0 : OsState) (n : Nat) (St : Nat → Heap → Prop) (J : Nat → List Value → List (Addr × Obj) → Prop) (k : Nat) (s' : Shared) : Prop
  | mk (h' : _) (tk : _) (i : _) (ys : _) (nw : _) (oC : _) (m₂ : _) (oI : _) (a0 : s' = { heap := h', gens := gn0, drawn := dr0, toks := tk, os := os0 }) (a1 : i ≤ n) (a2 : k = n + 1 - i) (a3 : St i h') (a4 : Fr g L h' m) (a5 : NsObj oC m₂) (a6 : News g L h' ((hp0.objs.size, oI) :: (H2.objs.size, oC) :: (H1.objs.size, listOf ys.toArray ys.length) :: nw)) (a7 : Nod ((hp0.objs.size, oI) :: (H2.objs.size, oC) :: (H1.objs.size, listOf ys.toArray ys.length) :: nw)) (a8 : J i ys nw) : Loop2o g L m hp0 H1 H2 gn0 dr0 os0 n St J k s'
theorem comp2 {elt iter iter2 ct : Expr} {x y : Str} {px py : Pos} {scope : Scope} {cl : List (Str × Addr)} {pos : Pos} {use : Option (Value → Sem Unit)} {Q : Value → Shared → Prop} (F₀ : Fr g L s.heap m)
    (hclos : closureFor scope env = pure cl) (hcell : ∀ y ∈ scope.names, y.2 ≠ .cell) (hkind : scope.kind = .function)
    (hnames : ∀ y ∈ scope.names, y.2 = .local → scope.names.lookup y.1 = some .local) (hx : scope.names.lookup x = some .local) (hy : scope.names.lookup y = some .local) (hxy : x ≠ y)
    (h : wpAny (model prog w) A (eval iter env) (fun xv s₁ => wpAny (model prog w) A (pyIter xv)
      (CompAt2 prog w A g L m (fun C => compEnvC scope cl C env) iter2 ct elt x y fun D C s' => compPost (model prog w) A E use Q (.ref D) C (.ok .next) s') E s₁) E s)
    (hs : ∀ x, foldedSetIterable iter env x = pure x := by intro _; rfl) (hs2 : ∀ C x, foldedSetIterable iter2 (compEnvC scope cl C env) x = pure x := by intro _ _; rfl) :
    wpAny (model prog w) A (comprehension (.ListComp elt [⟨.Name x px, iter, [], 0⟩, ⟨.Name y py, iter2, [ct], 0⟩] scope pos) scope env (firstIterPos [⟨.Name x px, iter, [], 0⟩, ⟨.Name y py, iter2, [ct], 0⟩] pos) (newList []) false (eval iter env) use) Q E s := by
  refine wpAny_comprehension_free rfl hs hclos hkind hnames (wpAny_mono h (fun xv s₁ h₁ => wpAny_mono h₁ (fun it s₂ h₂ => ?_) fun _ _ e => e) fun _ _ e => e)
  obtain ⟨s₀, n, P, S, news, J, ⟨I, fp, St, oI, rfl, rfl, rfl, W, hob, hSt, hst, hfp⟩, F, N, nd, h0, hS, turn, fin⟩ := h₂
  obtain ⟨hp0, gn0, dr0, tk0, os0⟩ := s₀
  dsimp only at *
  have hI : g.get? hp0.objs.size = none := by
    cases e : g.get? hp0.objs.size with
    | none => rfl
    | some o => exact absurd (Heap.lt_size (F.keep _ _ e)) (Nat.lt_irrefl _)
  have hIL : L ≠ hp0.objs.size := Nat.ne_of_lt F.ns.lt
  refine wpAny_newObj_type (wpAny_newFunctionEnv hcell (by intro y hy; simp at hy) (fun h₁ hns₁ hsb₁ => ?_) hkind)
  dsimp only at hns₁ hsb₁ ⊢
  generalize hH1 : hp0.push oI = H1 at *
  generalize hH2 : H1.push { cls := .type "list", dict := none, data := .seq ([] : List Value).toArray } = H2 at hns₁ hsb₁ ⊢
  have z1 : H1.objs.size = hp0.objs.size + 1 := by rw [← hH1, Heap.size_push]
  have z2 : H2.objs.size = H1.objs.size + 1 := by rw [← hH2, Heap.size_push]
  have up1 : ∀ b o, hp0.get? b = some o → H1.get? b = some o := fun b o e => hH1 ▸ Heap.get?_push_of_some _ e
  have up2 : ∀ b o, H1.get? b = some o → H2.get? b = some o := fun b o e => hH2 ▸ Heap.get?_push_of_some _ e
  have up3 : ∀ b o, H2.get? b = some o → h₁.get? b = some o := fun b o e => hsb₁.extBut b o (Nat.ne_of_lt (Heap.lt_size e)) (Heap.get?_push_of_some _ e)
  have fresh : ∀ a, hp0.objs.size ≤ a → g.get? a = none := fun a ha => by
    cases e : g.get? a with
    | none => rfl
    | some o => exact absurd (Heap.lt_size (F.keep _ _ e)) (Nat.not_lt.mpr ha)
  have hLlt : L < hp0.objs.size := F.ns.lt
  obtain ⟨oI0, hoI0⟩ := hob _ _ hst
  obtain ⟨oC, heC, hoC⟩ := ns_obj hns₁
  have hacc : h₁.get? H1.objs.size = some (lst []) := up3 _ _ (hH2 ▸ Heap.get?_push_size _ rfl)
  have hst₁ : St 0 h₁ := W.frame _ _ _ hst fun b _ o e => up3 _ _ (up2 _ _ e)
  have N0 : News g L h₁ ((hp0.objs.size, oI0) :: (H2.objs.size, oC) :: (H1.objs.size, lst []) :: news) := fun p hp => by
    rcases List.mem_cons.mp hp with rfl | hp
    · exact ⟨up3 _ _ (up2 _ _ hoI0), Ne.symm hIL, hI⟩
    · rcases List.mem_cons.mp hp with rfl | hp
      · exact ⟨heC, Ne.symm (Nat.ne_of_lt (Nat.lt_trans hLlt (by omega))), fresh _ (by omega)⟩
      · rcases List.mem_cons.mp hp with rfl | hp
        · exact ⟨hacc, Ne.symm (Nat.ne_of_lt (Nat.lt_trans hLlt (by omega))), fresh _ (by omega)⟩
        · exact ⟨up3 _ _ (up2 _ _ (up1 _ _ (N p hp).1)), (N p hp).2⟩
  have nd0 : Nod ((hp0.objs.size, oI0) :: (H2.objs.size, oC) :: (H1.objs.size, lst []) :: news) := by
    have hl : ∀ p ∈ news, p.1 < hp0.objs.size := fun p hp => Heap.lt_size (N p hp).1
    refine nodOff3.mpr ⟨Off3.of fun p hp => ⟨Nat.ne_of_lt (hl p hp), Nat.ne_of_lt (Nat.lt_trans (hl p hp) (by omega)), Nat.ne_of_lt (Nat.lt_trans (hl p hp) (by omega))⟩, ⟨?_, ?_, ?_⟩, nd⟩ <;> (intro e; omega)
  have loop : ∀ s₃ : Shared, s₃ = { heap := h₁, gens := gn0, drawn := dr0, toks := tk0 + ([] : List (Str × Value)).length, os := os0 } →
      codeAny (model prog w) A (.compLoop (.ListComp elt [⟨.Name x px, iter, [], 0⟩, ⟨.Name y py, iter2, [ct], 0⟩] scope pos) 0 (.ref hp0.objs.size) (.ref H1.objs.size) (compEnvC scope cl H2.objs.size env))
        (compPost (model prog w) A E use Q (.ref H1.objs.size) H2.objs.size) s₃ := by
    rintro s₃ rfl
    refine loop20 (Loop2o g L m hp0 H1 H2 gn0 dr0 os0 n St J) ?_ (n + 1)
      ⟨h₁, _, 0, [], news, oC, _, oI0, rfl, Nat.zero_le _, rfl, hst₁, F.keeps (fun b o e => up3 _ _ (up2 _ _ (up1 _ _ e))), hoC, N0, nd0, h0⟩ (hs := hs2 _)
    rintro k s' ⟨h', tk, i, ys, nw, oC', m₂, oI', rfl, hi, rfl, hst', F', hC', N', nd', hJ⟩
    have hnd := nod_cons.mp nd'
    by_cases hlt : i < n
    · refine W.item i _ _ _ hlt hst' fun v h₂ tk₂ hPv hst₂ hk₂ => ?_
      have F₂ := fr_but F' hk₂ hIL hI
      have N₂ := news_but (fun p hp => N' p (.tail _ hp)) hk₂ hnd.1
      obtain ⟨oI2, hoI2⟩ := hob _ _ hst₂
      have hCm := N₂ (H2.objs.size, oC') (.head _)
      have hCI : H2.objs.size ≠ hp0.objs.size := hnd.1 (H2.objs.size, oC') (.head _)
      refine wpAny_assign_Name (wpAny_storeName_local (lookup_relabel_local hx) (hC'.ns hCm.1) (fun h₃ hn₃ hs₃ => ?_) (by simp [compEnvC, relabel, hkind]))
      obtain ⟨oC₃, heC₃, hoC₃⟩ := ns_obj hn₃
      have F₃ : Fr g L h₃ m := F₂.change hs₃ hCm.2.1 hCm.2.2
      have hst₃ : St (i + 1) h₃ := by
        refine hSt _ h₂ h₃ oI2 nw hst₂ hoI2 (hs₃.extBut _ _ (Ne.symm hCI) hoI2) F₃.keep (fun p hp => ?_) (hS _ _ _ hJ)
        exact hs₃.extBut _ _ ((nod_cons.mp hnd.2).1 p (.tail _ hp)) (N₂ p (.tail _ (.tail _ hp))).1
      have N₃ : News g L h₃ ((hp0.objs.size, oI2) :: (H2.objs.size, oC₃) :: (H1.objs.size, listOf ys.toArray ys.length) :: nw) := fun p hp => by
        rcases List.mem_cons.mp hp with rfl | hp
        · exact ⟨hs₃.extBut _ _ (Ne.symm hCI) hoI2, Ne.symm hIL, hI⟩
        · rcases List.mem_cons.mp hp with rfl | hp
          · exact ⟨heC₃, hCm.2⟩
          · have q := N₂ p (.tail _ hp)
            exact ⟨hs₃.extBut _ _ ((nod_cons.mp hnd.2).1 p hp) q.1, q.2⟩
      have nd₃ : Nod ((hp0.objs.size, oI2) :: (H2.objs.size, oC₃) :: (H1.objs.size, listOf ys.toArray ys.length) :: nw) := nd'.of_map rfl
      refine wpAny_mono (turn i v ys nw _ oI2 _ oC₃ _ _ h₃ _ _ hPv hJ hoC₃ (by simp) F₃ N₃ nd₃) (fun xv s₄ h₄ => wpAny_mono h₄ (fun it2 s₅ h₅ => ?_) fun _ _ e => e) fun _ _ e => e
      refine inner2 hkind hy hxy h₅ fun h₆ tk₆ ys' nw' oC₆ m₆ hJ₆ F₆ hC₆ N₆ nd₆ => ?_
      refine ⟨n + 1 - (i + 1), by omega, h₆, tk₆, i + 1, ys', nw', oC₆, m₆, oI2, rfl, hlt, rfl, ?_, F₆, hC₆, N₆, nd₆, hJ₆⟩
      exact hSt _ h₃ h₆ oI2 nw' hst₃ (N₃ _ (.head _)).1 (N₆ _ (.head _)).1 F₆.keep (fun p hp => (N₆ p (.tail _ (.tail _ (.tail _ hp)))).1) (hS _ _ _ hJ₆)
    · obtain rfl : i = n := Nat.le_antisymm hi (Nat.not_lt.mp hlt)
      refine W.done _ _ _ hst' fun h₂ tk₂ hk₂ => ?_
      have F₂ := fr_but F' hk₂ hIL hI
      have N₂ := news_but (fun p hp => N' p (.tail _ hp)) hk₂ hnd.1
      exact fin _ _ oC' m₂ h₂ tk₂ ys nw hJ hC' F₂ N₂ hnd.2
  exact codeAny_compStart_list (loop _ rfl) (W.self 0 _ _ _ hst₁ (loop _ rfl))
theorem assign2 {elt iter iter2 ct : Expr} {x y z : Str} {px py pz : Pos} {scope : Scope} {cl : List (Str × Addr)} {pos spos : Pos} {Q : Flow → Shared → Prop} (F₀ : Fr g L s.heap m)
    (hsw : swapsWith (.ListComp elt [⟨.Name x px, iter, [], 0⟩, ⟨.Name y py, iter2, [ct], 0⟩] scope pos) (some (.Name z pz)) spos.line env = pure true)
    (hclos : closureFor scope env = pure cl) (hcell : ∀ y ∈ scope.names, y.2 ≠ .cell) (hkind : scope.kind = .function)
    (hnames : ∀ y ∈ scope.names, y.2 = .local → scope.names.lookup y.1 = some .local) (hx : scope.names.lookup x = some .local) (hy : scope.names.lookup y = some .local) (hxy : x ≠ y)
    (h : wpAny (model prog w) A (eval iter env) (fun xv s₁ => wpAny (model prog w) A (pyIter xv)
      (CompAt2 prog w A g L m (fun C => compEnvC scope cl C env) iter2 ct elt x y fun D C s' => compPost (model prog w) A E (some (assign (.Name z pz) env)) (fun _ s' => Q .next s') (.ref D) C (.ok .next) s') E s₁) E s)
    (hs : ∀ x, foldedSetIterable iter env x = pure x := by intro _; rfl) (hs2 : ∀ C x, foldedSetIterable iter2 (compEnvC scope cl C env) x = pure x := by intro _ _; rfl) :
    wpAny (model prog w) A (exec (.Assign [.Name z pz] (.ListComp elt [⟨.Name x px, iter, [], 0⟩, ⟨.Name y py, iter2, [ct], 0⟩] scope pos) spos) env) Q E s := by
  rw [exec_Assign_Name_used _ _ _ _ hsw]
  refine wpAny_bind (wpAny_standAt (wpAny_bind ?_))
  show wpAny _ A (do let _ ← comprehension (.ListComp elt [⟨.Name x px, iter, [], 0⟩, ⟨.Name y py, iter2, [ct], 0⟩] scope pos) scope env _ (newList []) false (eval iter env) (some (assign (.Name z pz) env))) _ _ s
  exact wpAny_bind (wpAny_mono (comp2 (use := some (assign (.Name z pz) env)) (Q := fun _ s' => Q .next s') F₀ hclos hcell hkind hnames hx hy hxy h hs hs2) (fun _ s' hq => wpAny_pure (wpAny_pure hq)) fun _ _ e => e)
end

end
section
open PyProof.Rows.LCg PyProof.Rows.LCt PyProof.V PySem.Spec
section
variable {prog : Program} {w : World} {A : Around} {E : Value → Shared → Prop} {s : Shared} {env : Env} {g : Heap} {L : Addr} {m : Str → Option Value} {K : Type} [DecidableEq K] {knd : KeyKind prog w K}
def TurnD (prog : Program) (w : World) (A : Around) (g : Heap) (L : Addr) (m : Str → Option Value) (knd : KeyKind prog w K) (cenv : Addr → Env) (ifs : List Expr) (kx vx : Expr) (x : Str) (s : Shared) (P : Nat → Value → Prop) (J : Nat → List (K × Value) → List (Addr × Obj) → Prop) : Prop :=
  ∀ i v kvs nw I oI C oC D oD m₂ h tk (E' : Value → Shared → Prop), P i v → J i kvs nw → oD.IsDictOf knd kvs → NsObj oC m₂ → m₂ x = some v → Fr g L h m → News g L h ((I, oI) :: (C, oC) :: (D, oD) :: nw) → Nod ((I, oI) :: (C, oC) :: (D, oD) :: nw) →
    wpAny (model prog w) A (forIn ifs true fun c r => if r = true then do let ok ← isTrue c (cenv C) (eval c (cenv C)); pure (ForInStep.yield ok) else pure (ForInStep.yield r)) (fun ok s' => if ok = true then
        wpAny (model prog w) A (eval kx (cenv C)) (fun kv s₄ => wpAny (model prog w) A (eval vx (cenv C)) (fun vv s₅ => ∃ k, knd.is k kv = true ∧ EndJ g L m { s with heap := h, toks := tk } I oI C oC D oD (J (i + 1) (stored kvs k vv)) s₅) E' s₄) E' s'
      else EndJ g L m { s with heap := h, toks := tk } I oI C oC D oD (J (i + 1) kvs) s') E' { s with heap := h, toks := tk }
def FinD (g : Heap) (L : Addr) (m : Str → Option Value) (knd : KeyKind prog w K) (s : Shared) (J : List (K × Value) → List (Addr × Obj) → Prop) (Fin : Addr → Addr → Shared → Prop) : Prop :=
  ∀ D C oC oD m' h tk kvs nw, J kvs nw → L < D → oD.IsDictOf knd kvs → NsObj oC m' → Fr g L h m → News g L h ((C, oC) :: (D, oD) :: nw) → Nod ((C, oC) :: (D, oD) :: nw) → Fin D C { s with heap := h, toks := tk }
inductive CompAtD (prog : Program) (w : World) (A : Around) (g : Heap) (L : Addr) (m : Str → Option Value) (knd : KeyKind prog w K) (cenv : Addr → Env) (ifs : List Expr) (kx vx : Expr) (x : Str) (Fin : Addr → Addr → Shared → Prop) (it : Value) (s₂ : Shared) : Prop
  | mk (s₁ : Shared) (n : Nat) (P : Nat → Value → Prop) (S : List (Addr × Obj) → Prop) (news : List (Addr × Obj)) (J : Nat → List (K × Value) → List (Addr × Obj) → Prop) (a0 : Src prog w A g s₁ n P S it s₂) (a1 : Fr g L s₁.heap m) (a2 : News g L s₁.heap news) (a3 : Nod news) (a4 : J 0 [] news) (a5 : (∀ i ys nw, J i ys nw → S nw)) (a6 : (∀ i ys nw, J i ys nw → ys.length ≤ 100000)) (a7 : TurnD prog w A g L m knd cenv ifs kx vx x s₁ P J) (a8 : FinD g L m knd s₁ (J n) Fin) : CompAtD prog w A g L m knd cenv ifs kx vx x Fin it s₂
inductive LoopD {prog : Program} {w : World} {K : Type} [DecidableEq K] (knd : KeyKind prog w K) (g : Heap) (L : Addr) (m : Str → Option Value) (hp0 H1 H2 : Heap) (gn0 : Array GenState) (dr0 : Drawn) (os0 : OsState) (n : Nat) (St : Nat → Heap → Prop) (J : Nat → List (K × Value) → List (Addr × Obj) → Prop) (k : Nat) (s' : Shared) : Prop
  | mk (h' : _) (tk : _) (i : _) (kvs : _) (nw : _) (oC : _) (m₂ : _) (oI : _) (oD : _) (a0 : s' = { heap := h', gens := gn0, drawn := dr0, toks := tk, os := os0 }) (a1 : i ≤ n) (a2 : k = n + 1 - i) (a3 : St i h') (a4 : Fr g L h' m) (a5 : NsObj oC m₂) (a6 : oD.IsDictOf knd kvs) (a7 : News g L h' ((hp0.objs.size, oI) :: (H2.objs.size, oC) :: (H1.objs.size, oD) :: nw)) (a8 : Nod ((hp0.objs.size, oI) :: (H2.objs.size, oC) :: (H1.objs.size, oD) :: nw)) (a9 : J i kvs nw) : LoopD knd g L m hp0 H1 H2 gn0 dr0 os0 n St J k s'
theorem compD {kx vx iter : Expr} {ifs : List Expr} {x : Str} {px : Pos} {scope : Scope} {cl : List (Str × Addr)} {pos : Pos} {use : Option (Value → Sem Unit)} {Q : Value → Shared → Prop} (knd : KeyKind prog w K) (F₀ : Fr g L s.heap m)
    (hclos : closureFor scope env = pure cl) (hcell : ∀ y ∈ scope.names, y.2 ≠ .cell) (hkind : scope.kind = .function)
    (hnames : ∀ y ∈ scope.names, y.2 = .local → scope.names.lookup y.1 = some .local) (hx : scope.names.lookup x = some .local)
    (h : wpAny (model prog w) A (eval iter env) (fun xv s₁ => wpAny (model prog w) A (pyIter xv)
      (CompAtD prog w A g L m knd (fun C => compEnvC scope cl C env) ifs kx vx x fun D C s' => compPost (model prog w) A E use Q (.ref D) C (.ok .next) s') E s₁) E s)
    (hs : ∀ x, foldedSetIterable iter env x = pure x := by intro _; rfl) :
    wpAny (model prog w) A (comprehension (.DictComp kx vx [⟨.Name x px, iter, ifs, 0⟩] scope pos) scope env (firstIterPos [⟨.Name x px, iter, ifs, 0⟩] pos) newDict false (eval iter env) use) Q E s := by
  refine wpAny_comprehension_free rfl hs hclos hkind hnames (wpAny_mono h (fun xv s₁ h₁ => wpAny_mono h₁ (fun it s₂ h₂ => ?_) fun _ _ e => e) fun _ _ e => e)
  obtain ⟨s₀, n, P, S, news, J, ⟨I, fp, St, oI, rfl, rfl, rfl, W, hob, hSt, hst, hfp⟩, F, N, nd, h0, hS, hlen, turn, fin⟩ := h₂
  obtain ⟨hp0, gn0, dr0, tk0, os0⟩ := s₀
  dsimp only at *
  have hI : g.get? hp0.objs.size = none := by
    cases e : g.get? hp0.objs.size with
    | none => rfl
    | some o => exact absurd (Heap.lt_size (F.keep _ _ e)) (Nat.lt_irrefl _)
  have hIL : L ≠ hp0.objs.size := Nat.ne_of_lt F.ns.lt
  refine wpAny_newObj_type (wpAny_newFunctionEnv hcell (by intro y hy; simp at hy) (fun h₁ hns₁ hsb₁ => ?_) hkind)
  dsimp only at hns₁ hsb₁ ⊢
  generalize hH1 : hp0.push oI = H1 at *
  have hnew : (H1.push { cls := .type "dict", dict := none, data := .dict #[] }).DictOf knd H1.objs.size [] := Heap.DictOf.new H1
  generalize hH2 : H1.push { cls := .type "dict", dict := none, data := .dict #[] } = H2 at hns₁ hsb₁ hnew ⊢
  have z1 : H1.objs.size = hp0.objs.size + 1 := by rw [← hH1, Heap.size_push]
  have z2 : H2.objs.size = H1.objs.size + 1 := by rw [← hH2, Heap.size_push]
  have up1 : ∀ b o, hp0.get? b = some o → H1.get? b = some o := fun b o e => hH1 ▸ Heap.get?_push_of_some _ e
  have up2 : ∀ b o, H1.get? b = some o → H2.get? b = some o := fun b o e => hH2 ▸ Heap.get?_push_of_some _ e
  have up3 : ∀ b o, H2.get? b = some o → h₁.get? b = some o := fun b o e => hsb₁.extBut b o (Nat.ne_of_lt (Heap.lt_size e)) (Heap.get?_push_of_some _ e)
  have fresh : ∀ a, hp0.objs.size ≤ a → g.get? a = none := fun a ha => by
    cases e : g.get? a with
    | none => rfl
    | some o => exact absurd (Heap.lt_size (F.keep _ _ e)) (Nat.not_lt.mpr ha)
  have hLlt : L < hp0.objs.size := F.ns.lt
  obtain ⟨oI0, hoI0⟩ := hob _ _ hst
  obtain ⟨oC, heC, hoC⟩ := ns_obj hns₁
  obtain ⟨oD0, hoD0, hD0⟩ := Heap.dictOf_iff.mp hnew
  have hacc : h₁.get? H1.objs.size = some oD0 := up3 _ _ hoD0
  have hst₁ : St 0 h₁ := W.frame _ _ _ hst fun b _ o e => up3 _ _ (up2 _ _ e)
  have N0 : News g L h₁ ((hp0.objs.size, oI0) :: (H2.objs.size, oC) :: (H1.objs.size, oD0) :: news) := fun p hp => by
    rcases List.mem_cons.mp hp with rfl | hp
    · exact ⟨up3 _ _ (up2 _ _ hoI0), Ne.symm hIL, hI⟩
    · rcases List.mem_cons.mp hp with rfl | hp
      · exact ⟨heC, Ne.symm (Nat.ne_of_lt (Nat.lt_trans hLlt (by omega))), fresh _ (by omega)⟩
      · rcases List.mem_cons.mp hp with rfl | hp
        · exact ⟨hacc, Ne.symm (Nat.ne_of_lt (Nat.lt_trans hLlt (by omega))), fresh _ (by omega)⟩
        · exact ⟨up3 _ _ (up2 _ _ (up1 _ _ (N p hp).1)), (N p hp).2⟩
  have nd0 : Nod ((hp0.objs.size, oI0) :: (H2.objs.size, oC) :: (H1.objs.size, oD0) :: news) := by
    have hl : ∀ p ∈ news, p.1 < hp0.objs.size := fun p hp => Heap.lt_size (N p hp).1
    refine nodOff3.mpr ⟨Off3.of fun p hp => ⟨Nat.ne_of_lt (hl p hp), Nat.ne_of_lt (Nat.lt_trans (hl p hp) (by omega)), Nat.ne_of_lt (Nat.lt_trans (hl p hp) (by omega))⟩, ⟨?_, ?_, ?_⟩, nd⟩ <;> (intro e; omega)
  have loop : ∀ s₃ : Shared, s₃ = { heap := h₁, gens := gn0, drawn := dr0, toks := tk0 + ([] : List (Str × Value)).length, os := os0 } →
      codeAny (model prog w) A (.compLoop (.DictComp kx vx [⟨.Name x px, iter, ifs, 0⟩] scope pos) 0 (.ref hp0.objs.size) (.ref H1.objs.size) (compEnvC scope cl H2.objs.size env))
        (compPost (model prog w) A E use Q (.ref H1.objs.size) H2.objs.size) s₃ := by
    rintro s₃ rfl
    refine codeAny_compLoop_testsD (LoopD knd g L m hp0 H1 H2 gn0 dr0 os0 n St J) ?_ (n + 1)
      ⟨h₁, _, 0, [], news, oC, _, oI0, oD0, rfl, Nat.zero_le _, rfl, hst₁, F.keeps (fun b o e => up3 _ _ (up2 _ _ (up1 _ _ e))), hoC, hD0, N0, nd0, h0⟩
    rintro k s' ⟨h', tk, i, kvs, nw, oC', m₂, oI', oD', rfl, hi, rfl, hst', F', hC', hDk, N', nd', hJ⟩
    have hnd := nod_cons.mp nd'
    by_cases hlt : i < n
    · refine W.item i _ _ _ hlt hst' fun v h₂ tk₂ hPv hst₂ hk₂ => ?_
      have F₂ := fr_but F' hk₂ hIL hI
      have N₂ := news_but (fun p hp => N' p (.tail _ hp)) hk₂ hnd.1
      obtain ⟨oI2, hoI2⟩ := hob _ _ hst₂
      have hCm := N₂ (H2.objs.size, oC') (.head _)
      have hCI : H2.objs.size ≠ hp0.objs.size := hnd.1 (H2.objs.size, oC') (.head _)
      refine wpAny_assign_Name (wpAny_storeName_local (lookup_relabel_local hx) (hC'.ns hCm.1) (fun h₃ hn₃ hs₃ => ?_) (by simp [compEnvC, relabel, hkind]))
      obtain ⟨oC₃, heC₃, hoC₃⟩ := ns_obj hn₃
      have F₃ : Fr g L h₃ m := F₂.change hs₃ hCm.2.1 hCm.2.2
      have hst₃ : St (i + 1) h₃ := by
        refine hSt _ h₂ h₃ oI2 nw hst₂ hoI2 (hs₃.extBut _ _ (Ne.symm hCI) hoI2) F₃.keep (fun p hp => ?_) (hS _ _ _ hJ)
        exact hs₃.extBut _ _ ((nod_cons.mp hnd.2).1 p (.tail _ hp)) (N₂ p (.tail _ (.tail _ hp))).1
      have N₃ : News g L h₃ ((hp0.objs.size, oI2) :: (H2.objs.size, oC₃) :: (H1.objs.size, oD') :: nw) := fun p hp => by
        rcases List.mem_cons.mp hp with rfl | hp
        · exact ⟨hs₃.extBut _ _ (Ne.symm hCI) hoI2, Ne.symm hIL, hI⟩
        · rcases List.mem_cons.mp hp with rfl | hp
          · exact ⟨heC₃, hCm.2⟩
          · have q := N₂ p (.tail _ hp)
            exact ⟨hs₃.extBut _ _ ((nod_cons.mp hnd.2).1 p hp) q.1, q.2⟩
      have nd₃ : Nod ((hp0.objs.size, oI2) :: (H2.objs.size, oC₃) :: (H1.objs.size, oD') :: nw) := nd'.of_map rfl
      refine wpAny_mono (turn i v kvs nw _ oI2 _ oC₃ _ oD' _ h₃ _ _ hPv hJ hDk hoC₃ (by simp) F₃ N₃ nd₃) (fun ok s₄ h₄ => ?_) fun _ _ e => e
      cases ok with
      | true =>
        simp only [if_true] at h₄ ⊢
        refine wpAny_mono h₄ (fun kv s₅ h₅ => wpAny_mono h₅ (fun vv s₆ h₆ => ?_) fun _ _ e => e) fun _ _ e => e
        obtain ⟨kk, hkk, h₄, tk₄, nw₄, rfl, F₄, N₄, nd₄, hJ₄⟩ := h₆
        have hD := N₄ (H1.objs.size, oD') (.tail _ (.tail _ (.head _)))
        have hst₄ : St (i + 1) h₄ := hSt _ h₃ h₄ oI2 nw₄ hst₃ (N₃ _ (.head _)).1 (N₄ _ (.head _)).1 F₄.keep (fun p hp => (N₄ p (.tail _ (.tail _ (.tail _ hp)))).1) (hS _ _ _ hJ₄)
        have hndI := nod_cons.mp nd₄
        have hndC := nod_cons.mp hndI.2
        have hndL := nod_cons.mp hndC.2
        refine wpAny_dictSet_pairs (hsz := by have := hlen _ _ _ hJ; rw [sizeLine_eq]; omega) hkk (Heap.dictOf_iff.mpr ⟨oD', hD.1, hDk⟩) fun h₅ hl₅ hs₅ => ?_
        obtain ⟨oD₅, hoD₅, hD₅⟩ := Heap.dictOf_iff.mp hl₅
        refine ⟨n + 1 - (i + 1), by omega, h₅, _, i + 1, _, nw₄, oC₃, _, oI2, oD₅, rfl, hlt, rfl, ?_, F₄.change hs₅ hD.2.1 hD.2.2, hoC₃, hD₅, ?_, nd₄.of_map rfl, hJ₄⟩
        · refine hSt _ h₄ h₅ oI2 nw₄ hst₄ (N₄ _ (.head _)).1 (hs₅.extBut _ _ (fun e => hndI.1 (H1.objs.size, oD') (.tail _ (.head _)) e.symm) (N₄ _ (.head _)).1) (F₄.change hs₅ hD.2.1 hD.2.2).keep (fun p hp => ?_) (hS _ _ _ hJ₄)
          exact hs₅.extBut _ _ (hndL.1 p hp) (N₄ p (.tail _ (.tail _ (.tail _ hp)))).1
        · intro p hp
          rcases List.mem_cons.mp hp with rfl | hp
          · have q := N₄ (hp0.objs.size, oI2) (.head _)
            exact ⟨hs₅.extBut _ _ (fun e => hndI.1 (H1.objs.size, oD') (.tail _ (.head _)) e.symm) q.1, q.2⟩
          · rcases List.mem_cons.mp hp with rfl | hp
            · have q := N₄ (H2.objs.size, oC₃) (.tail _ (.head _))
              exact ⟨hs₅.extBut _ _ (fun e => hndC.1 (H1.objs.size, oD') (.head _) e.symm) q.1, q.2⟩
            · rcases List.mem_cons.mp hp with rfl | hp
              · exact ⟨hoD₅, hD.2⟩
              · have q := N₄ p (.tail _ (.tail _ (.tail _ hp)))
                exact ⟨hs₅.extBut _ _ (hndL.1 p hp) q.1, q.2⟩
      | false =>
        simp only [Bool.false_eq_true, if_false] at h₄ ⊢
        obtain ⟨h₄, tk₄, nw₄, rfl, F₄, N₄, nd₄, hJ₄⟩ := h₄
        have hst₄ : St (i + 1) h₄ := hSt _ h₃ h₄ oI2 nw₄ hst₃ (N₃ _ (.head _)).1 (N₄ _ (.head _)).1 F₄.keep (fun p hp => (N₄ p (.tail _ (.tail _ (.tail _ hp)))).1) (hS _ _ _ hJ₄)
        exact ⟨n + 1 - (i + 1), by omega, h₄, tk₄, i + 1, kvs, nw₄, oC₃, _, oI2, oD', rfl, hlt, rfl, hst₄, F₄, hoC₃, hDk, N₄, nd₄, hJ₄⟩
    · obtain rfl : i = n := Nat.le_antisymm hi (Nat.not_lt.mp hlt)
      refine W.done _ _ _ hst' fun h₂ tk₂ hk₂ => ?_
      have F₂ := fr_but F' hk₂ hIL hI
      have N₂ := news_but (fun p hp => N' p (.tail _ hp)) hk₂ hnd.1
      exact fin _ _ oC' oD' m₂ h₂ tk₂ kvs nw hJ (Nat.lt_trans hLlt (by omega)) hDk hC' F₂ N₂ hnd.2
  exact codeAny_compStart_dict (loop _ rfl) (W.self 0 _ _ _ hst₁ (loop _ rfl))
theorem finEvalD {J : List (K × Value) → List (Addr × Obj) → Prop} {Q : Value → Shared → Prop}
    (done : ∀ D oD h tk kvs nw, J kvs nw → L < D → oD.IsDictOf knd kvs → Fr g L h m → News g L h ((D, oD) :: nw) → Nod ((D, oD) :: nw) → Q (.ref D) { s with heap := h, toks := tk }) :
    FinD g L m knd s J fun D C s' => compPost (model prog w) A E none Q (.ref D) C (.ok .next) s' := by
  intro D C oC oD m' h tk kvs nw hJ hlt hD hC F N nd
  have hm := N (C, oC) (.head _)
  have hnd := nod_cons.mp nd
  refine ⟨m', hC.ns hm.1, fun h' hs => done D oD h' tk kvs nw hJ hlt hD (F.change hs hm.2.1 hm.2.2) (fun p hp => ?_) hnd.2⟩
  have q := N p (.tail _ hp)
  exact ⟨hs.extBut _ _ (hnd.1 p hp) q.1, q.2⟩
theorem notMods {w : World} {g h : Heap} {L D : Addr} {m : Str → Option Value} (F : Fr g L h m) (B : Bs w g) (hlt : L < D) : (D == sysModules) = false :=
  beq_eq_false_iff_ne.mpr (Nat.ne_of_gt (Nat.lt_trans (Nat.lt_of_lt_of_le (modules_low B.nolimit) F.above) hlt))
end

end
local macro_rules | `(tactic| walk_at "MEM") => `(tactic| first
  | with_reducible exact mem_fam_a (by assumption)
  | with_reducible exact mem_fam_s (by assumption)
  | with_reducible exact mem_fam_d (by assumption)
  | with_reducible exact mem_set_a (by assumption)
  | with_reducible exact mem_set_s (by assumption)
  | with_reducible exact mem_set_d (by assumption)
  | exact List.mem_cons_self
  | (refine List.mem_cons_of_mem _ ?_; walk_at "MEM"))
local macro_rules | `(tactic| walk_at "UPD") => `(tactic| first
  | with_reducible exact upd_npF (by assumption) (by assumption)
  | with_reducible exact upd_pushF (by assumption) (by assumption)
  | with_reducible exact upd_pushF (getSet (by assumption)) (by assumption)
  | exact updH (by assumption)
  | (refine' updT ?a ?b ?c; (case a => assumption); (case b => walk_at "MEM"); (case c => (intro hn9; walk_at "UPD"))))
local macro_rules | `(tactic| walk_at "UPDF") => `(tactic| first | exact updFH (by assumption) | (refine' updFT ?a ?b ?c; (case a => assumption); (case b => walk_at "MEM"); (case c => (intro hn9; walk_at "UPDF"))))
local macro_rules | `(tactic| walk_at "getAttr ref") => `(tactic| ((with_reducible show wpAny _ _ (getAttr _ (Str.ofString "npredecessors") _) _ _ _); k_dflt (refine gaNp (by assumption) (by assumption) (InstAt.mk1 (by walk_at "HGET") (by walk_at "HGET")) ?_; try dsimp only)))
local macro_rules | `(tactic| walk_at "getAttr ref") => `(tactic| ((with_reducible show wpAny _ _ (getAttr _ (Str.ofString "successors") _) _ _ _); k_dflt (refine gaSucc (by assumption) (by assumption) (InstAt.mk1 (by walk_at "HGET") (by walk_at "HGET")) ?_; try dsimp only)))
local macro_rules | `(tactic| walk_at "getAttr ref") => `(tactic| ((with_reducible show wpAny _ _ (getAttr _ (Str.ofString "node") _) _ _ _); k_dflt (refine gaNode (by assumption) (by assumption) (InstAt.mk1 (by walk_at "HGET") (by walk_at "HGET")) ?_; try dsimp only)))
local macro_rules | `(tactic| walk_at "setAttr ref") => `(tactic| ((with_reducible show wpAny _ _ (setAttr _ (Str.ofString "_ready_nodes") _) _ _ _); k_dflt (refine' sa_ready ?F ?B ?N ?I ?U ?nd ?_; (case F => assumption); (case B => assumption); (case N => assumption); (case I => exact InstAt.mk1 (by walk_at "HGET") (by walk_at "HGET")); (case nd => assumption); (case U => walk_at "UPD"); intro h' F' N' nd')))
local macro_rules | `(tactic| walk_at "setAttr ref") => `(tactic| ((with_reducible show wpAny _ _ (setAttr _ (Str.ofString "_npassedout") _) _ _ _); k_dflt (refine' sa_passed ?F ?B ?N ?I ?U ?nd ?_; (case F => assumption); (case B => assumption); (case N => assumption); (case I => exact InstAt.mk1 (by walk_at "HGET") (by walk_at "HGET")); (case nd => assumption); (case U => walk_at "UPD"); intro h' F' N' nd')))
local macro_rules | `(tactic| walk_at "setAttr ref") => `(tactic| ((with_reducible show wpAny _ _ (setAttr _ (Str.ofString "_nfinished") _) _ _ _); k_dflt (refine' sa_finished ?F ?B ?N ?I ?U ?nd ?_; (case F => assumption); (case B => assumption); (case N => assumption); (case I => exact InstAt.mk1 (by walk_at "HGET") (by walk_at "HGET")); (case nd => assumption); (case U => walk_at "UPD"); intro h' F' N' nd')))
local macro_rules | `(tactic| walk_at "setAttr ref") => `(tactic| ((with_reducible show wpAny _ _ (setAttr _ (Str.ofString "npredecessors") _) _ _ _); k_dflt (refine' saNpN ?F ?B ?N ?I ?U ?nd ?_; (case F => assumption); (case B => assumption); (case N => assumption); (case I => exact InstAt.mk1 (by walk_at "HGET") (by walk_at "HGET")); (case nd => assumption); (case U => walk_at "UPD"); intro h' F' N' nd')))
local macro_rules | `(tactic| walk_at "newList") => `(tactic| k_dflt ((rename Nod _ => nd9); refine newListF (by assumption) (by assumption) ?_ (by size_fits); intro D' h' F' N' lt'; have nd' := nodCons' N' nd9 lt'; clear nd9))
local macro_rules | `(tactic| walk_at "newTuple") => `(tactic| k_dflt ((rename Nod _ => nd9); refine newTupleF (by assumption) (by assumption) ?_ (by size_fits); intro D' h' F' N' lt'; have nd' := nodCons' N' nd9 lt'; clear nd9))
local macro_rules | `(tactic| walk_at "call type:tuple") => `(tactic| k_dflt ((rename Nod _ => nd9); refine tupOfList (by assumption) (by assumption) (by walk_at "HGET") (by first | assumption | omega) ?_; intro D' h' F' N' lt'; have nd' := nodCons' N' nd9 lt'; clear nd9))
local macro_rules | `(tactic| walk_at "call builtin:list.clear") => `(tactic| k_dflt (refine' clearF ?F ?N ?nd ?U ?z ?_; (case F => assumption); (case N => assumption); (case nd => assumption); (case U => walk_at "UPDF"); (case z => first | assumption | omega); intro h' n' F' N' nd'))
local macro_rules | `(tactic| walk_at "call builtin:list.append") => `(tactic| k_dflt (refine' appendF ?F ?N ?nd ?U ?z ?_; (case F => assumption); (case N => assumption); (case nd => assumption); (case U => walk_at "UPD"); (case z => first | assumption | omega); intro h' F' N' nd'))
local macro_rules | `(tactic| walk_at "call builtin:len") => `(tactic| k_dflt (refine lenL (by walk_at "HGET") (by omega) ?_; (intro a9 b9); (try dsimp only)))
local macro_rules | `(tactic| walk_at "call builtin:len") => `(tactic| k_dflt (refine lenT (by walk_at "HGET") (by omega) ?_; (intro a9 b9); (try dsimp only)))
local macro_rules | `(tactic| walk_at "FRAME") => `(tactic| (refine frameOf fun y hy => ?_; simp only [List.contains_cons, List.contains_nil, Bool.or_eq_false_iff, beq_eq_false_iff_ne] at hy; simp [hy]))
local macro_rules | `(tactic| walk_at "call builtin:iter") => `(tactic| k_dflt ((rename Nod _ => nd9); refine iterB (by assumption) (by assumption) nd9 (by walk_at "HGET") ?_; intro I' h' F' N' nd'; clear nd9))
local macro_rules | `(tactic| walk_at "call type:set nil nil") => `(tactic| k_dflt ((rename Nod _ => nd9); refine newSetF (by assumption) (by assumption) nd9 ?_; intro Z' h' so' hs' F' N' nd'; clear nd9))
local macro_rules | `(tactic| walk_at "getAttr ref") => `(tactic| ((with_reducible show wpAny _ _ (getAttr _ (Str.ofString "__next__") _) _ _ _); k_dflt ((rename Nod _ => nd9); refine gaNextF (by assumption) (by assumption) nd9 (by walk_at "HGET") ?_; intro u' h' F' N' nd'; clear nd9)))
local macro_rules | `(tactic| walk_at "compareOp In") => `(tactic| ((with_reducible show wpAny _ _ (compareOp CmpOp.In (Value.int _ _) (Value.ref _)) _ _ _); k_dflt (refine' setInF ?N ?U ?s ?b ?_; (case N => assumption); (case s => assumption); (case U => walk_at "UPDF"); (case b => first | assumption | omega))))
local macro_rules | `(tactic| walk_at "getMethod ref") => `(tactic| ((with_reducible show wpAny _ _ (getMethod _ (Str.ofString "add") _) _ _ _); k_dflt (refine' setMethF ?N ?U ?s ?b ?_; (case N => assumption); (case s => assumption); (case U => walk_at "UPDF"); (case b => first | assumption | omega))))
local macro_rules | `(tactic| walk_at "call builtin:set.add") => `(tactic| k_dflt (refine' setAddF ?F ?N ?nd ?U ?s ?b ?_; (case F => assumption); (case N => assumption); (case nd => assumption); (case s => assumption); (case U => walk_at "UPDF"); (case b => first | assumption | omega); intro h' so' hs' F' N' nd'))
local macro_rules | `(tactic| walk_at "subscriptTail") => `(tactic| k_dflt (refine dictItemG (knd := intKind _ _) (by walk_at "HGET") (by assumption) (intKind_is _ _ _ _) (by assumption) ?_; try dsimp only))
local macro_rules | `(tactic| walk_at "truthy ref") => `(tactic| k_dflt (refine wpAny_truthy_list (isListH (by walk_at "HGET")) (by first | assumption | (simp [intsSE]; done) | (simp [intsSE]; omega)) ?_; (try dsimp only)))
section
theorem reset_Q1 : True := by
  w_top off
  trivial
section
variable {w : World} {A : Around} {E : Value → Shared → Prop} {s : Shared} {g h : Heap} {L a x dx : Addr} {m : Str → Option Value} {news news' W rest : List (Addr × Obj)} {k : Int} {kt : Nat}
/-- the base of a call: all but what it may change -/
theorem bsHide (F : Fr g L h m) (B : Bs w g) (N : News g L h (W ++ rest)) : Bs w (hideAll h (W.map (·.1))) :=
  B.keeps fun b o e => hideAll_get _ (F.keep b o e) fun hb => by
    obtain ⟨p, hp, rfl⟩ := List.mem_map.mp hb
    rw [(N p (List.mem_append_left _ hp)).2.2] at e; cases e
theorem newsHave (N : News g L h (W ++ rest)) : ∀ p ∈ W, h.get? p.1 = some p.2 := fun p hp => (N p (List.mem_append_left _ hp)).1
theorem nodL (nd : Nod (W ++ rest)) : Nod W := by
  unfold Nod at nd ⊢; rw [List.map_append, List.nodup_append] at nd; exact nd.1
theorem newsSub (N : News g L h news) (hs : ∀ p ∈ news', p ∈ news) : News g L h news' := fun p hp => N p (hs p hp)
theorem nodPerm (nd : Nod news) (hp : news'.Perm news) : Nod news' := by
  unfold Nod at nd ⊢; exact (hp.map _).nodup_iff.mpr nd
theorem Out.perm {W' : List (Addr × Obj)} (O : Out g W h) (hp : W'.Perm W) : Out g W' h := O.sub (fun _ hq => hp.mem_iff.mp hq) (nodPerm O.nod hp)
theorem newsPerm (N : News g L h news) (hp : news'.Perm news) : News g L h news' := newsSub N fun _ hq => hp.mem_iff.mp hq

theorem saNode0 {Q : Unit → Shared → Prop} {od : Obj} (F : Fr g L s.heap m) (B : Bs w g) (N : News g L s.heap news) (I : InstAt s.heap x ⟨.ref 84, some dx, .plain, #[]⟩ 84 (some od))
    (U : Upd x ⟨.ref 84, some dx, .plain, #[]⟩ ⟨.ref 84, some dx, .plain, #[some (.int k kt)]⟩ news news') (nd : Nod news)
    (h : ∀ h', Fr g L h' m → News g L h' news' → Nod news' → Q () { s with heap := h', toks := s.toks + 1 }) :
    wpAny (model Challenge.pw_ij0208_01 w) A (setAttr (.ref x) "node" (.int k kt)) Q E s :=
  set_slot (p := 85) (i := 0) F B.X N I (by kernel_rfl) (by kernel_rfl) (by kernel_rfl) (by kernel_rfl) (by kernel_rfl) (by decide) rfl rfl U fun h' F' N' => h h' F' N' (nod_upd U nd)
theorem saNode1 {Q : Unit → Shared → Prop} {od : Obj} {np : Int} {pt : Nat} {v : Value} (F : Fr g L s.heap m) (B : Bs w g) (N : News g L s.heap news) (I : InstAt s.heap x ⟨.ref 84, some dx, .plain, #[some v]⟩ 84 (some od))
    (U : Upd x ⟨.ref 84, some dx, .plain, #[some v]⟩ ⟨.ref 84, some dx, .plain, #[some v, some (.int np pt)]⟩ news news') (nd : Nod news)
    (h : ∀ h', Fr g L h' m → News g L h' news' → Nod news' → Q () { s with heap := h', toks := s.toks + 1 }) :
    wpAny (model Challenge.pw_ij0208_01 w) A (setAttr (.ref x) "npredecessors" (.int np pt)) Q E s :=
  set_slot (p := 86) (i := 1) F B.X N I (by kernel_rfl) (by kernel_rfl) (by kernel_rfl) (by kernel_rfl) (by kernel_rfl) (by decide) rfl rfl U fun h' F' N' => h h' F' N' (nod_upd U nd)
theorem saNode2 {Q : Unit → Shared → Prop} {od : Obj} {v u r : Value} (F : Fr g L s.heap m) (B : Bs w g) (N : News g L s.heap news) (I : InstAt s.heap x ⟨.ref 84, some dx, .plain, #[some v, some u]⟩ 84 (some od))
    (U : Upd x ⟨.ref 84, some dx, .plain, #[some v, some u]⟩ ⟨.ref 84, some dx, .plain, #[some v, some u, some r]⟩ news news') (nd : Nod news)
    (h : ∀ h', Fr g L h' m → News g L h' news' → Nod news' → Q () { s with heap := h', toks := s.toks + 1 }) :
    wpAny (model Challenge.pw_ij0208_01 w) A (setAttr (.ref x) "successors" r) Q E s :=
  set_slot (p := 87) (i := 2) F B.X N I (by kernel_rfl) (by kernel_rfl) (by kernel_rfl) (by kernel_rfl) (by kernel_rfl) (by decide) rfl rfl U fun h' F' N' => h h' F' N' (nod_upd U nd)
end
local macro_rules | `(tactic| walk_at "setAttr ref") => `(tactic| ((with_reducible show wpAny _ _ (setAttr _ (Str.ofString "node") _) _ _ _); k_dflt (refine' saNode0 ?F ?B ?N ?I ?U ?nd ?_; (case F => assumption); (case B => assumption); (case N => assumption); (case I => exact InstAt.mk1 (by walk_at "HGET") (by walk_at "HGET")); (case nd => assumption); (case U => walk_at "UPD"); intro h' F' N' nd')))
local macro_rules | `(tactic| walk_at "setAttr ref") => `(tactic| ((with_reducible show wpAny _ _ (setAttr _ (Str.ofString "npredecessors") _) _ _ _); k_dflt (refine' saNode1 ?F ?B ?N ?I ?U ?nd ?_; (case F => assumption); (case B => assumption); (case N => assumption); (case I => exact InstAt.mk1 (by walk_at "HGET") (by walk_at "HGET")); (case nd => assumption); (case U => walk_at "UPD"); intro h' F' N' nd')))
local macro_rules | `(tactic| walk_at "setAttr ref") => `(tactic| ((with_reducible show wpAny _ _ (setAttr _ (Str.ofString "successors") _) _ _ _); k_dflt (refine' saNode2 ?F ?B ?N ?I ?U ?nd ?_; (case F => assumption); (case B => assumption); (case N => assumption); (case I => exact InstAt.mk1 (by walk_at "HGET") (by walk_at "HGET")); (case nd => assumption); (case U => walk_at "UPD"); intro h' F' N' nd')))
theorem nodeInit {w : World} {A : Around} {s : Shared} {x dx : Addr} {k : Int} {kt : Nat} {R : Result → Shared → Prop}
    (N : ∀ p ∈ [(x, (⟨.ref 84, some dx, .plain, #[]⟩ : Obj)), (dx, dictOf [] 0)], s.heap.get? p.1 = some p.2)
    (B : Bs w (hideAll s.heap ([(x, (⟨.ref 84, some dx, .plain, #[]⟩ : Obj)), (dx, dictOf [] 0)].map (·.1))))
    (nd : Nod [(x, (⟨.ref 84, some dx, .plain, #[]⟩ : Obj)), (dx, dictOf [] 0)])
    (hroom : A.depth < 425) (hu : A.units < 50) (hh : A.handled = none)
    (hQ : ∀ sa pt n h' t', Out (hideAll s.heap ([(x, (⟨.ref 84, some dx, .plain, #[]⟩ : Obj)), (dx, dictOf [] 0)].map (·.1))) [(x, nodeObj dx k kt 0 pt sa), (dx, dictOf [] 0), (sa, listOf #[] n)] h' → R (.ok (.ret .none)) { s with heap := h', toks := t' }) :
    codeAny (model PySem.Challenge.pw_ij0208_01 w) A (.call (.ref 80) ⟨[.ref x, .int k kt], []⟩) R s := by
  refine enter (f := 80) _ rfl B N (by kernel_rfl) (Nat.lt_trans hroom (by decide)) (binds := [(Str.ofString "self", .ref x), (Str.ofString "node", .int k kt)]) (.of_eq rfl) (locs (by rfl)) ?_
  intro L h₁ F N hlt
  generalize (hideAll s.heap _) = g at B F N hQ
  walk_at "WALKS"
  rename Fr _ _ _ _ => F3
  rename News _ _ _ _ => N3
  rename Nod _ => nd3
  exact hQ _ _ _ _ _ ((Out.of F3 N3 nd3).perm (List.perm_append_comm (l₁ := [_, _]) (l₂ := [_])))
theorem mkNode {w : World} {A : Around} {E : Value → Shared → Prop} {s : Shared} {g : Heap} {L : Addr} {m : Str → Option Value} {news : List (Addr × Obj)} {k : Int} {kt : Nat} {Q : Value → Shared → Prop} (F : Fr g L s.heap m) (B : Bs w g) (N : News g L s.heap news) (nd : Nod news)
    (hroom : A.depth < 424) (hu : A.units < 49) (hh : A.handled = none)
    (h : ∀ a da sa pt n h' t', Fr g L h' m → News g L h' ((a, nodeObj da k kt 0 pt sa) :: (da, dictOf [] 0) :: (sa, listOf #[] n) :: news) → Nod ((a, nodeObj da k kt 0 pt sa) :: (da, dictOf [] 0) :: (sa, listOf #[] n) :: news) → Q (.ref a) { s with heap := h', toks := t' }) :
    wpAny (model PySem.Challenge.pw_ij0208_01 w) A (call (.ref 84) [.int k kt]) Q E s := by
  refine call_cls F B.X N (by kernel_rfl) (fI := 80) (by kernel_rfl) (by kernel_rfl) fun x dx h1 F1 N1 l1 l2 => ?_
  have nd1 : Nod ((x, instObj 84 dx) :: (dx, dictOf [] 0) :: news) := nodCons (nodCons nd l1) fun p hp => by
    rcases List.mem_cons.mp hp with rfl | hp
    · exact l2
    · exact Nat.lt_trans (l1 p hp) l2
  refine nodeInit (newsHave (W := [_, _]) N1) (bsHide (W := [_, _]) F1 B N1) (nodL (W := [_, _]) nd1) (Nat.lt_of_le_of_lt (Nat.le_of_eq rfl) (Nat.succ_lt_succ hroom)) (Nat.lt_of_le_of_lt (Nat.le_of_eq rfl) (Nat.succ_lt_succ hu)) hh fun sa pt n h' t' O => ?_
  obtain ⟨F2, N2, nd2⟩ := back (W := [_, _]) F1 N1 nd1 O
  exact ⟨rfl, h _ _ _ _ _ _ _ F2 N2 nd2⟩

end
section
def OnB (w : World) (h : Heap) : Prop := ∃ g L m, Bs w g ∧ Fr g L h m
theorem OnB.X {w : World} {h : Heap} (O : OnB w h) : (hd.heap_39 w.params).In h := by
  obtain ⟨g, L, m, B, F⟩ := O
  exact (B.keeps F.keep).X
theorem OnB.of {w : World} {g h : Heap} {L : Addr} {m : Str → Option Value} (B : Bs w g) (F : Fr g L h m) : OnB w h := ⟨_, _, _, B, F⟩
section
variable {M : Model} {w : World} {A : Around} {E : Value → Shared → Prop} {s : Shared} {env : Env} {pos p : Pos} {f : Value} {first : List Value} {Q : Value → Shared → Prop} {g : Heap} {L : Addr} {m : Str → Option Value} {e : Expr} {rest : List Expr}
theorem cwR (B : Bs w g) (hk : keepIn (hd.heap_39 w.params) f = true) (h : wpAny M A (spliced (backTo pos (starEach (e :: rest) env))) (fun vs s₁ => OnB w s₁.heap ∧ wpAny M A (call f (first ++ vs)) Q E s₁) E s)
    (he : starEach (e :: rest) env = (false, eval e env) :: starEach rest env := by rfl) (hst : (backTo pos (starEach rest env)).any (·.1) = false := by rfl) :
    wpAny M A (callWith pos f first (backTo pos (starEach (e :: rest) env)) []) Q E s :=
  callWith_K B.X hk (wpAny_mono h (fun vs s₁ z => ⟨z.1.X, z.2⟩) fun _ _ x => x) he hst
theorem cwR0 (F : Fr g L s.heap m) (B : Bs w g) (hk : keepIn (hd.heap_39 w.params) f = true) (h : wpAny M A (call f (first ++ [])) Q E s) : wpAny M A (callWith pos f first (backTo pos (starEach [] env)) []) Q E s :=
  callWith_K0 (B.keeps F.keep).X hk h
theorem cwS (B : Bs w g) (hk : keepIn (hd.heap_39 w.params) f = true) (h : wpAny M A (eval e env) (fun v s₁ => StarOf M A E v (fun vs s₂ => OnB w s₂.heap ∧ wpAny M A (call f (first ++ vs)) Q E s₂) s₁) E s)
    (he : starEach [.Starred e p] env = [(true, eval e env)] := by rfl) :
    wpAny M A (callWith pos f first (backTo pos (starEach [.Starred e p] env)) []) Q E s := by
  refine callWith_S B.X hk (wpAny_mono h (fun v s₁ z => ?_) fun _ _ x => x) he
  unfold StarOf at z ⊢
  exact wpAny_mono z (fun b s₂ z => ⟨z.1, wpAny_mono z.2 (fun vs s₃ z => ⟨z.1.X, z.2⟩) fun _ _ x => x⟩) fun _ _ x => x
theorem cwS2 (B : Bs w g) (hk : keepIn (hd.heap_39 w.params) f = true) (h : wpAny M A (spliced (backTo pos (starEach (e :: rest) env))) (fun vs s₁ => OnB w s₁.heap ∧ wpAny M A (call f (first ++ vs)) Q E s₁) E s)
    (he : starEach (e :: rest) env = (false, eval e env) :: starEach rest env := by rfl) (hst : (backTo pos (starEach rest env)).any (·.1) = true := by rfl) :
    wpAny M A (callWith pos f first (backTo pos (starEach (e :: rest) env)) []) Q E s :=
  callWith_S2 B.X hk (wpAny_mono h (fun vs s₁ z => ⟨z.1.X, z.2⟩) fun _ _ x => x) he hst
end
section
variable {w : World} {A : Around} {E : Value → Shared → Prop} {s : Shared} {g : Heap} {L x dx : Addr} {m : Str → Option Value} {d : SD} {D V : Value} {np nf : Int}
theorem gm181 {name : Str} {f : Addr} {pl : Sem Bool} {Q : Value × List Value → Shared → Prop} (F : Fr g L s.heap m) (B : Bs w g) (I : InstAt s.heap x (sobj dx) 181 (some (sdict d D V np nf)))
    (hg : plainGet (hd.heap_39 w.params) 181 name = true) (hf : findIn (hd.heap_39 w.params) (.ref 181) name = some (some (.ref f))) (ht : isFn (hd.heap_39 w.params) (.ref f) = true)
    (hl : getL name [⟨d.h0, .str "_node2info" d.k0, D⟩, ⟨d.h1, .str "_ready_nodes" d.k1, V⟩, ⟨d.h2, .str "_npassedout" d.k2, .int np d.t2⟩, ⟨d.h3, .str "_nfinished" d.k3, .int nf d.t3⟩] = some none)
    (h : Q (.ref f, [.ref x]) s) : wpAny (model Challenge.pw_ij0208_01 w) A (getMethod (.ref x) name pl) Q E s :=
  method_inst F B.X I hg hf ht hl h
end
section
variable {prog : Program} {w : World} {K : Type} [DecidableEq K] {knd : KeyKind prog w K} {A : Around} {E : Value → Shared → Prop} {s : Shared} {h₀ : Heap} {L d : Addr} {m : Str → Option Value} {news : List (Addr × Obj)} {g : Obj → List (Addr × Obj)} {o : Obj} {kvs : List (K × Value)} {k : K} {key v : Value}
theorem setD {Q : Unit → Shared → Prop} (F : Fr h₀ L s.heap m) (N : News h₀ L s.heap news) (nd : Nod news) (U : UpdF d o news g) (hd : o.IsDictOf knd kvs) (hkey : knd.is k key = true) (hsz : kvs.length ≤ sizeLine)
    (h : ∀ h' o', Fr h₀ L h' m → News h₀ L h' (g o') → Nod (g o') → o'.IsDictOf knd (stored kvs k v) → Q () { s with heap := h', toks := s.toks + 1 }) : wpAny (model prog w) A (setItem (.ref d) key v) Q E s :=
  kda_set F N U hd hkey hsz fun h' o' F' N' hd' => h h' o' F' N' (nod_updF U nd o') hd'
end
theorem stored_new {K : Type} [DecidableEq K] {kvs : List (K × Value)} {k : K} {v : Value} (h : valueAt kvs k = none) : stored kvs k v = kvs ++ [(k, v)] := by
  unfold stored
  rw [if_neg]
  intro h1
  unfold valueAt at h
  simp only [Option.map_eq_none_iff, List.find?_eq_none, List.any_eq_true] at h h1
  obtain ⟨x, hx, e⟩ := h1
  exact h x hx e

end
section
section
variable {w : World} {A : Around} {E : Value → Shared → Prop} {s' : Shared} {g h base : Heap} {outer : List Env} {L a e C : Addr} {m : Str → Option Value} {name : Str} {scope : Scope} {cd a0 : Value}
  {x : Str} {b₀ : Stmt} {suite : List Stmt} {pos np : Pos} {rest : List ExceptHandler} {W FS : List (Addr × Obj)}
/-- what stands of the ledger behind an exception's way: all but frames stands in base -/
theorem settle {h₂ : Heap} (F : Fr g L h m) (N : News g L h (W ++ FS)) (nd : Nod (W ++ FS)) (hF : FrOf outer FS) (hg : g.StaysIn base) (hW : ∀ p ∈ W, base.get? p.1 = some p.2) (k : base.StaysIn h₂) (u : h.UpToSlots h₂) :
    ∃ FS', SlotEq FS FS' ∧ Fr g L h₂ m ∧ News g L h₂ (W ++ FS') ∧ Nod (W ++ FS') := by
  have z : Noise (List.range h.objs.size) h h₂ := ⟨fun b hb o e => absurd (List.mem_range.mpr (Heap.lt_size e)) hb, u⟩
  obtain ⟨FS', h1, h2⟩ := z.slotEq hF fun p hp => (N p (List.mem_append_right _ hp)).1
  refine ⟨FS', h1, ⟨u.ns F.ns, fun b o e => k _ _ (hg _ _ e), F.above⟩, fun p hp => ?_, nd.of_map (by rw [List.map_append, List.map_append, h1.adr])⟩
  rcases List.mem_append.mp hp with hp | hp
  · exact ⟨k _ _ (hW p hp), (N p (List.mem_append_left _ hp)).2⟩
  · refine ⟨h2 p hp, ?_⟩
    have : p.1 ∈ FS.map (·.1) := by rw [← h1.adr]; exact List.mem_map_of_mem (f := (·.1)) hp
    obtain ⟨q, hq, e⟩ := List.mem_map.mp this
    rw [← e]
    exact (N q (List.mem_append_right _ hq)).2
/-- a made exception leaves the frame that raised it -/
theorem leaveMade {vs : List Value} {Q : Unit → Shared → Prop} (hA : A.frames = some outer) (F : Fr g L h m) (N : News g L h (W ++ FS)) (nd : Nod (W ++ FS)) (hF : FrOf outer FS) (hx : Heap.MadeExcOf h s'.heap e (.ref C) vs)
    (hQ : ∀ base h' t FS', g.StaysIn base → (∀ p ∈ W, base.get? p.1 = some p.2) → Heap.FlyingW base outer e (.ref C) (.ref t) h' → SlotEq FS FS' → Out g (W ++ FS') h' → Q () { s' with heap := h' }) (hk : scope.kind = .function := by rfl) :
    wpAny (model Challenge.pw_ij0208_01 w) (A.deeper (envOf name scope L a cd)) (leaving (envOf name scope L a cd) (.ref e)) Q E s' := by
  obtain ⟨oL, hoL, hoLd⟩ := frObj F
  have hn : ∀ b ∈ L :: FS.map (·.1), (hideAll h (L :: FS.map (·.1))).get? b = none := fun b hb => hideAll_none _ hb
  have hFS : FrOf (envOf name scope L a cd :: outer) ((L, oL) :: FS) := ⟨by show scope.kind ≠ .module; rw [hk]; decide, rfl, hoLd, hF⟩
  have hin' : ∀ p ∈ (L, oL) :: FS, h.get? p.1 = some p.2 := fun p hp => by
    rcases List.mem_cons.mp hp with rfl | hp
    · exact hoL
    · exact (N p (List.mem_append_right _ hp)).1
  have nd' := nd
  unfold Nod at nd'
  rw [List.map_append, List.nodup_append] at nd'
  have hg : g.StaysIn (hideAll h (L :: FS.map (·.1))) := fun b o e' => hideAll_get _ (F.keep b o e') fun hb => by
    rcases List.mem_cons.mp hb with rfl | hb
    · rw [frNone F] at e'; cases e'
    · obtain ⟨p, hp, rfl⟩ := List.mem_map.mp hb
      rw [(N p (List.mem_append_right _ hp)).2.2] at e'; cases e'
  have hW : ∀ p ∈ W, (hideAll h (L :: FS.map (·.1))).get? p.1 = some p.2 := fun p hp => by
    have q := N p (List.mem_append_left _ hp)
    refine hideAll_get _ q.1 fun hb => ?_
    rcases List.mem_cons.mp hb with e' | hb
    · exact q.2.1 e'
    · exact nd'.2.2 p.1 (List.mem_map_of_mem (f := (·.1)) hp) p.1 hb rfl
  refine wpAny_leaves_madeW (base := hideAll h (L :: FS.map (·.1))) (Around.frames_deeper hA) rfl (fun b o hb => of_hideAll _ hb) (FrOf.fun hFS hin' fun p hp => hn _ (List.mem_map_of_mem (f := (·.1)) hp)) hx fun h' t x1 x2 x3 x4 => ?_
  obtain ⟨FS', h1, F', N', nd''⟩ := settle F N nd hF hg hW x1.1 ((Heap.UpToSlots.of_keeps hx.keeps).trans x4)
  exact hQ _ h' t FS' hg hW x1 h1 (Out.of F' N' nd'')
/-- an exception of an own class that came flying out of a call is caught by its own class -/
theorem caughtFly {Q : Flow → Shared → Prop} (hA : A.frames = some outer) (F : Fr g L s'.heap m) (B : Bs w g) (N : News g L s'.heap (W ++ FS)) (nd : Nod (W ++ FS)) (hF : FrOf outer FS) (hg : g.StaysIn base) (hW : ∀ p ∈ W, base.get? p.1 = some p.2)
    (fl : Heap.FlyingW base (envOf name scope L a cd :: outer) e (.ref C) a0 s'.heap)
    (ex : nsIn (hd.heap_39 w.params) mainGlobals x = some (some (.ref C))) (q : ktsIn (hd.heap_39 w.params) C "BaseException" = true)
    (k : ∀ h' FS', SlotEq FS FS' → Fr g L h' m → News g L h' (W ++ FS') → Nod (W ++ FS') →
      wpAny (model Challenge.pw_ij0208_01 w) ((A.deeper (envOf name scope L a cd)).mark (some (.ref e))) (execs (b₀ :: suite) (envOf name scope L a cd)) Q E { s' with heap := h' })
    (hk : scope.kind = .function := by rfl) (hxk : (envOf name scope L a cd).kindOf x = some .globalImplicit := by rfl) (hd : (x == ("__debug__" : Str)) = false := by decide)
    (hE : PassesOwnAt (model Challenge.pw_ij0208_01 w) ((A.deeper (envOf name scope L a cd)).mark (some (.ref e))) (A.deeper (envOf name scope L a cd)) (envOf name scope L a cd) E := by passes_own) :
    wpAny (model Challenge.pw_ij0208_01 w) (A.deeper (envOf name scope L a cd)) (noteFrame (.ref e) (envOf name scope L a cd))
      (fun _ s₂ => wpAny (model Challenge.pw_ij0208_01 w) (A.deeper (envOf name scope L a cd)) (setFlight (.ref e) none) (fun _ s₃ =>
        wpAny (model Challenge.pw_ij0208_01 w) (A.deeper (envOf name scope L a cd)) (handleBy (.ref e) (envOf name scope L a cd) (.ExceptHandler (some (.Name x np)) none (b₀ :: suite) pos :: rest)) Q E s₃) E s₂) E s' := by
  refine wpAny_looks_onW (Around.frames_deeper hA) rfl fl fun h₄ hheld₄ u₄ => ?_
  refine wpAny_landsW hheld₄ fun h₅ hheld u₅' => ?_
  have u₅ := u₄.trans u₅'
  obtain ⟨FS₅, _, F₅, _, _⟩ := settle F N nd hF hg hW hheld.1 u₅
  obtain ⟨ob, hob, hobc⟩ := hheld.there
  obtain ⟨nm, q', N', bs, bm, hdct, sn, sub, ab, col, dd, k0, k1, k2, k3, k5, newId, hC, hbase, hbT⟩ := kts_cls B.X q
  have hC₅ := F₅.keep _ _ hC
  refine wpAny_handleBy_cons (codeAny_handlers_test (gname F₅ B ex ?_ hk hxk hd)) (by intro q; cases q)
  refine wpAny_excMatches_sub_self hC₅ hob hobc hbase (codeAny_handlers_suite ?_)
  refine lands_againW hheld fun h₆ hfl₆ u₆ => ?_
  obtain ⟨FS₆, hs₆, F₆, N₆, nd₆⟩ := settle F N nd hF hg hW hfl₆.1 (u₅.trans u₆)
  exact wpAny_passesOwnAt hE (k h₆ FS₆ hs₆ F₆ N₆ nd₆)
end
theorem cycTail (w : World) : excIn (hd.heap_39 w.params) 99 [.type "ValueError", .type "Exception", .type "BaseException", .type "object"] "ValueError.__new__" = true := by kernel_rfl
theorem cycIn (w : World) : ktsIn (hd.heap_39 w.params) 99 "BaseException" = true := by kernel_rfl
section
variable {w : World} {A : Around} {E : Value → Shared → Prop} {s : Shared} {g : Heap} {L a : Addr} {m : Str → Option Value} {name : Str} {scope : Scope} {cd : Value} {e₀ : Expr} {rest : List Expr} {np cpos pos : Pos}
theorem raiseCyc {Q : Flow → Shared → Prop} (F : Fr g L s.heap m) (B : Bs w g) (hh : A.handled = none)
    (h : wpAny (model Challenge.pw_ij0208_01 w) A (spliced (backTo cpos (starEach (e₀ :: rest) (envOf name scope L a cd)))) (fun vs s₂ => vs.length ≤ sizeLine ∧ (∀ b o, g.get? b = some o → s₂.heap.get? b = some o) ∧
      ∀ h' e, Heap.MadeExcOf s₂.heap h' e (.ref 99) vs → E (.ref e) { s₂ with heap := h' }) E s)
    (he : starEach (e₀ :: rest) (envOf name scope L a cd) = (false, eval e₀ (envOf name scope L a cd)) :: starEach rest (envOf name scope L a cd) := by rfl)
    (hplain : (backTo cpos (starEach rest (envOf name scope L a cd))).any (·.1) = false := by rfl)
    (hk : scope.kind = .function := by rfl) (hx : (envOf name scope L a cd).kindOf (Str.ofString "CycleError") = some .globalImplicit := by rfl) :
    wpAny (model Challenge.pw_ij0208_01 w) A (exec (.Raise (some (.Call (.Name (Str.ofString "CycleError") np) (e₀ :: rest) [] cpos)) none pos) (envOf name scope L a cd)) Q E s := by
  obtain ⟨X, mg, mb, T⟩ := B
  exact Raise_own F T.g (own_of_in X T (gnCycleError w) (cycTail w)) PySem.F.excBase_ValueError hh h he hplain hk hx (by decide)
end
theorem slotCons {L : Addr} {oL : Obj} {FS FS' : List (Addr × Obj)} (h : SlotEq ((L, oL) :: FS) FS') : ∃ oL' FS₁, FS' = (L, oL') :: FS₁ ∧ (∃ sl, oL' = { oL with slots := sl }) ∧ SlotEq FS FS₁ := by
  cases FS' with
  | nil => exact h.elim
  | cons q r =>
    obtain ⟨⟨e, sl, e2⟩, h2⟩ := h
    obtain ⟨q1, q2⟩ := q
    cases e
    exact ⟨q2, r, rfl, ⟨sl, e2⟩, h2⟩
theorem frontN {g h : Heap} {L : Addr} {a pre b : List (Addr × Obj)} (N : News g L h (pre ++ (a ++ b))) (nd : Nod (pre ++ (a ++ b))) : News g L h (a ++ (pre ++ b)) ∧ Nod (a ++ (pre ++ b)) :=
  have p := (List.perm_append_comm_assoc pre a b).symm
  ⟨newsPerm N p, nodPerm nd p⟩

end
section
section
variable {M : Model} {A : Around} {E : Value → Shared → Prop} {s : Shared} {env : Env}
theorem methodStar {o : Expr} {name : Str} {apos pos : Pos} {args : List Expr} {Q : Value → Shared → Prop}
    (h : wpAny M A (eval o env) (fun ov s₁ => wpAny M A (getAttr ov name true) (fun f s₂ => wpAny M A (callWith pos f [] (backTo pos (starEach args env)) []) Q E s₂) E s₁) E s)
    (he : eval (.Call (.Attribute o name apos) args [] pos) env = (do
      let ov ← eval o env
      standAt apos.atName
      let (f, first) ← holding [ov] (do pure (← getAttr ov name true, []))
      callWith pos f first (backTo pos (starEach args env)) []) := by rfl) :
    wpAny M A (eval (.Call (.Attribute o name apos) args [] pos) env) Q E s := by
  rw [he]
  refine wpAny_bind (wpAny_mono h (fun ov s₁ h₁ => wpAny_bind (wpAny_standAt (wpAny_bind (wpAny_holding (wpAny_bind (wpAny_mono h₁ (fun f s₂ h₂ => wpAny_pure h₂) fun _ _ x => x)))))) fun _ _ x => x)
end
section
variable {w : World} {A : Around} {E : Value → Shared → Prop} {s : Shared} {g : Heap} {L x dx q f : Addr} {m : Str → Option Value} {d : SD} {D V : Value} {np nf : Int} {news : List (Addr × Obj)} {self : Value} {M : Model} {env : Env} {pos p : Pos} {e : Expr} {rest : List Expr}
theorem gaBound {name : Str} {expr : Bool} {Q : Value → Shared → Prop} (F : Fr g L s.heap m) (B : Bs w g) (N : News g L s.heap news) (nd : Nod news) (I : InstAt s.heap x (sobj dx) 181 (some (sdict d D V np nf)))
    (hg : plainGet (hd.heap_39 w.params) 181 name = true) (hh : hasDictIn (hd.heap_39 w.params) 181 = true) (ha : findIn (hd.heap_39 w.params) (.ref 181) name = some (some (.ref f))) (hf : isFn (hd.heap_39 w.params) (.ref f) = true)
    (hgf : specialIn (hd.heap_39 w.params) (.ref f) "__get__" = some (some (.builtin "function.__get__"))) (ht : takesIn (hd.heap_39 w.params) (.ref f) = some false) (hc : copiedNames.contains name = false)
    (hl : getL name [⟨d.h0, .str "_node2info" d.k0, D⟩, ⟨d.h1, .str "_ready_nodes" d.k1, V⟩, ⟨d.h2, .str "_npassedout" d.k2, .int np d.t2⟩, ⟨d.h3, .str "_nfinished" d.k3, .int nf d.t3⟩] = some none)
    (h : ∀ q h', Fr g L h' m → News g L h' ((q, methodObj (.ref f) (.ref x)) :: news) → Nod ((q, methodObj (.ref f) (.ref x)) :: news) → Q (.ref q) { s with heap := h', toks := s.toks + 1 }) :
    wpAny (model Challenge.pw_ij0208_01 w) A (getAttr (.ref x) name expr) Q E s :=
  kbm_bound F B.X N I hg hh ha hf hgf ht hc hl fun q h' F' N' lt => h q h' F' N' (nodCons' N' nd lt)
theorem cwMS {Q : Value → Shared → Prop} (hf : fnIn (hd.heap_39 w.params) f = true) (h : wpAny M A (eval e env) (fun v s₁ => StarOf M A E v (fun vs s₂ => MethP (hd.heap_39 w.params) q f self s₂.heap ∧ wpAny M A (call (.ref q) vs) Q E s₂) s₁) E s)
    (he : starEach [.Starred e p] env = [(true, eval e env)] := by rfl) :
    wpAny M A (callWith pos (.ref q) [] (backTo pos (starEach [.Starred e p] env)) []) Q E s := by
  rw [he]
  exact ks_call rfl (keeps_M (q := q) (self := self) hf) (ks_lone h)
theorem cwMS2 {Q : Value → Shared → Prop} (hf : fnIn (hd.heap_39 w.params) f = true) (h : wpAny M A (spliced (backTo pos (starEach (e :: rest) env))) (fun vs s₁ => MethP (hd.heap_39 w.params) q f self s₁.heap ∧ wpAny M A (call (.ref q) vs) Q E s₁) E s)
    (he : starEach (e :: rest) env = (false, eval e env) :: starEach rest env := by rfl) (hst : (backTo pos (starEach rest env)).any (·.1) = true := by rfl) :
    wpAny M A (callWith pos (.ref q) [] (backTo pos (starEach (e :: rest) env)) []) Q E s := by
  rw [he] at h ⊢
  exact ks_call (by show (false || (backTo pos (starEach rest env)).any (·.1)) = true; rw [hst]; rfl) (keeps_M (q := q) (self := self) hf) (evalArgs_plain h)
end

end
section
theorem permN {l l' : List (Addr × Obj)} (h : ∀ [BEq (Addr × Obj)] [LawfulBEq (Addr × Obj)] (a : Addr × Obj), l.count a = l'.count a) : l.Perm l' := by
  classical
  exact List.perm_iff_count.mpr fun a => h a
theorem frPin1 {g h : Heap} {L : Addr} {m : Str → Option Value} {a : Str} {v1 : Value} (F : Fr g L h m) (h1 : m a = some v1) :
    Fr g L h fun y => if y = a then some v1 else m y := by
  have e : m = fun y => if y = a then some v1 else m y := by
    funext y
    by_cases q1 : y = a
    · subst q1; simp [h1]
    · simp [q1]
  rw [← e]; exact F
theorem frPin2 {g h : Heap} {L : Addr} {m : Str → Option Value} {a b : Str} {v1 v2 : Value} (F : Fr g L h m) (h1 : m a = some v1) (h2 : m b = some v2) :
    Fr g L h fun y => if y = a then some v1 else if y = b then some v2 else m y := by
  have e : m = fun y => if y = a then some v1 else if y = b then some v2 else m y := by
    funext y
    by_cases q1 : y = a
    · subst q1; simp [h1]
    · by_cases q2 : y = b
      · subst q2; simp [h2, q1]
      · simp [q1, q2]
  rw [← e]; exact F
theorem frTail {g h : Heap} {L : Addr} {m : Str → Option Value} {v1 v2 : Value} (F : Fr g L h m) (h1 : m (Str.ofString "ring") = some v1) (h2 : m (Str.ofString "copies") = some v2) :
    Fr g L h fun y => if (["g", "step", "due", "active", "ready", "rest", "part"] : List Str).contains y then m y else if y = Str.ofString "ring" then some v1 else if y = Str.ofString "copies" then some v2 else m y := by
  have e : m = fun y => if (["g", "step", "due", "active", "ready", "rest", "part"] : List Str).contains y then m y else if y = Str.ofString "ring" then some v1 else if y = Str.ofString "copies" then some v2 else m y := by
    funext y
    by_cases q1 : y = Str.ofString "ring"
    · subst q1; simp [h1]
    · by_cases q2 : y = Str.ofString "copies"
      · subst q2; simp [h2, q1]
      · simp [q1, q2]
  rw [← e]; exact F
def segs {α : Type} : List (List α) → List α
  | [] => []
  | [l] => l
  | l :: r :: t => l ++ segs (r :: t)
theorem segs_flat {α : Type} : ∀ ls : List (List α), segs ls = ls.flatten
  | [] => rfl
  | [l] => by simp [segs]
  | l :: r :: t => by rw [segs, segs_flat (r :: t)]; rfl
theorem perm_getD {α : Type} (ls : List (List α)) : ∀ ix : List Nat, ix.Perm (List.range ls.length) → (ix.map fun i => ls.getD i []).Perm ls := fun ix h => by
  have h1 := h.map fun i => ls.getD i []
  have h2 : ((List.range ls.length).map fun i => ls.getD i []) = ls := by
    apply List.ext_getElem
    · simp
    · intro i h1 h2
      simp
      rw [List.getElem?_eq_getElem h2]; rfl
  rw [h2] at h1; exact h1
theorem segsPerm {α : Type} (ls : List (List α)) (ix : List Nat) (n : Nat) (hl : ls.length = n) (h : ix.isPerm (List.range n) = true) : (segs (ix.map fun i => ls.getD i [])).Perm (segs ls) := by
  subst hl
  rw [segs_flat, segs_flat]
  exact (perm_getD ls ix (List.isPerm_iff.mp h)).flatten

end
local macro_rules | `(tactic| walk_at "getMethod ref") => `(tactic| ((with_reducible show wpAny _ _ (getMethod _ (Str.ofString "_get_nodeinfo") _) _ _ _); k_dflt (refine gm181 (f := 124) (by assumption) (by assumption) (InstAt.mk1 (by walk_at "HGET") (by walk_at "HGET")) (by kernel_rfl) (by kernel_rfl) (by kernel_rfl) (by rfl) ?_; try dsimp only)))
local macro_rules | `(tactic| walk_at "getMethod ref") => `(tactic| ((with_reducible show wpAny _ _ (getMethod _ (Str.ofString "add") _) _ _ _); k_dflt (refine gm181 (f := 131) (by assumption) (by assumption) (InstAt.mk1 (by walk_at "HGET") (by walk_at "HGET")) (by kernel_rfl) (by kernel_rfl) (by kernel_rfl) (by rfl) ?_; try dsimp only)))
local macro_rules | `(tactic| walk_at "getMethod ref") => `(tactic| ((with_reducible show wpAny _ _ (getMethod _ (Str.ofString "prepare") _) _ _ _); k_dflt (refine gm181 (f := 136) (by assumption) (by assumption) (InstAt.mk1 (by walk_at "HGET") (by walk_at "HGET")) (by kernel_rfl) (by kernel_rfl) (by kernel_rfl) (by rfl) ?_; try dsimp only)))
local macro_rules | `(tactic| walk_at "getMethod ref") => `(tactic| ((with_reducible show wpAny _ _ (getMethod _ (Str.ofString "get_ready") _) _ _ _); k_dflt (refine gm181 (f := 143) (by assumption) (by assumption) (InstAt.mk1 (by walk_at "HGET") (by walk_at "HGET")) (by kernel_rfl) (by kernel_rfl) (by kernel_rfl) (by rfl) ?_; try dsimp only)))
local macro_rules | `(tactic| walk_at "getMethod ref") => `(tactic| ((with_reducible show wpAny _ _ (getMethod _ (Str.ofString "is_active") _) _ _ _); k_dflt (refine gm181 (f := 150) (by assumption) (by assumption) (InstAt.mk1 (by walk_at "HGET") (by walk_at "HGET")) (by kernel_rfl) (by kernel_rfl) (by kernel_rfl) (by rfl) ?_; try dsimp only)))
local macro_rules | `(tactic| walk_at "getMethod ref") => `(tactic| ((with_reducible show wpAny _ _ (getMethod _ (Str.ofString "done") _) _ _ _); k_dflt (refine gm181 (f := 164) (by assumption) (by assumption) (InstAt.mk1 (by walk_at "HGET") (by walk_at "HGET")) (by kernel_rfl) (by kernel_rfl) (by kernel_rfl) (by rfl) ?_; try dsimp only)))
local macro_rules | `(tactic| walk_at "getMethod ref") => `(tactic| ((with_reducible show wpAny _ _ (getMethod _ (Str.ofString "_find_cycle") _) _ _ _); k_dflt (refine gm181 (f := 171) (by assumption) (by assumption) (InstAt.mk1 (by walk_at "HGET") (by walk_at "HGET")) (by kernel_rfl) (by kernel_rfl) (by kernel_rfl) (by rfl) ?_; try dsimp only)))
local macro_rules | `(tactic| walk_at "callWith ref") => `(tactic| k_dflt (first | (refine cwR (by assumption) (by kernel_rfl) ?_; try dsimp only) | (refine cwR0 (by assumption) (by assumption) (by kernel_rfl) ?_; try dsimp only [List.nil_append, List.cons_append]) | (refine cwS (by assumption) (by kernel_rfl) ?_; try dsimp only) | (refine cwS2 (by assumption) (by kernel_rfl) ?_; try dsimp only)))
local macro_rules | `(tactic| walk_at "And") => `(tactic| ((with_reducible show OnB _ _ ∧ _); refine And.intro (OnB.of (by assumption) (by assumption)) ?_; try dsimp only [List.nil_append, List.cons_append]))
local macro_rules | `(tactic| walk_at "call ref") => `(tactic| ((with_reducible show wpAny _ _ (call (Value.ref 84) _) _ _ _); k_dflt ((rename Nod _ => nd9); refine mkNode (by assumption) (by assumption) (by assumption) nd9 (by (simp only [depth_deeper, units_deeper]; omega)) (by (simp only [depth_deeper, units_deeper]; omega)) (by assumption) ?_; intro a' da' sa' pt' n' h' t' F' N' nd'; clear nd9)))
local macro_rules | `(tactic| walk_at "setItem ref int") => `(tactic| k_dflt (refine' setD (knd := intKind _ _) ?F ?N ?nd ?U ?d (intKind_is _ _ _ _) ?z ?_; (case F => assumption); (case N => assumption); (case nd => assumption); (case d => assumption); (case U => walk_at "UPDF"); (case z => first | assumption | (simp only [sizeLine_eq, List.length_map]; omega)); intro h' o' F' N' nd' hd'))
local macro_rules | `(tactic| walk_at "callWith ref") => `(tactic| k_dflt (first | (refine cwWrap (by walk_at "HGET") ?_; try dsimp only) | (refine cwWrap0 (by walk_at "HGET") ?_; try dsimp only)))
section
theorem reset_B4 : True := by
  w_top off
  trivial
/-- the node of a key, found or new -/
def GetN (k : Int) (kt : Nat) (l l' : List Nd) (j : Nat) (d : Nd) : Prop :=
  l'[j]? = some d ∧ d.key = k ∧ ((l' = l ∧ l[j]? = some d) ∨ ((∀ x ∈ l, x.key ≠ k) ∧ l' = l ++ [d] ∧ j = l.length ∧ d.np = 0 ∧ d.succ = [] ∧ d.nt = kt))
theorem va_none {l : List Nd} {k : Int} (h : ∀ x ∈ l, x.key ≠ k) : valueAt (kvsOf l) k = none := by
  induction l with
  | nil => rfl
  | cons a l ih =>
    have h1 := h a (.head _)
    have h2 := ih fun x hx => h x (.tail _ hx)
    simp [kvsOf, valueAt] at h2 ⊢
    simp [h1]
    exact h2
theorem va_or (l : List Nd) (k : Int) : (∃ (j : Nat) (d : Nd), l[j]? = some d ∧ d.key = k) ∨ ∀ x ∈ l, x.key ≠ k := by
  by_cases h : ∃ x ∈ l, x.key = k
  · obtain ⟨x, hx, e⟩ := h
    obtain ⟨j, hj⟩ := List.getElem?_of_mem hx
    exact .inl ⟨j, x, hj, e⟩
  · exact .inr fun x hx e => h ⟨x, hx, e⟩
theorem getInfo {w : World} {A : Around} {s : Shared} {x dx D : Addr} {d : SD} {V : Value} {np nf : Int} {oD : Obj} {nodes : List Nd} {k : Int} {kt : Nat} {Q : Value → Shared → Prop}
    (hD : oD.IsDictOf (intKind Challenge.pw_ij0208_01 w) (kvsOf nodes)) (hlo : (D == sysModules) = false)
    (N : ∀ p ∈ (x, sobj dx) :: (dx, sdict d (.ref D) V np nf) :: (D, oD) :: famOf nodes, s.heap.get? p.1 = some p.2)
    (B : Bs w (hideAll s.heap (((x, sobj dx) :: (dx, sdict d (.ref D) V np nf) :: (D, oD) :: famOf nodes).map (·.1))))
    (nd : Nod ((x, sobj dx) :: (dx, sdict d (.ref D) V np nf) :: (D, oD) :: famOf nodes))
    (hsz : nodes.length < 1000)
    (hroom : A.depth < 420) (hu : A.units < 45) (hh : A.handled = none) {E : Value → Shared → Prop}
    (hQ : ∀ oD' nodes' j dj h' t', oD'.IsDictOf (intKind Challenge.pw_ij0208_01 w) (kvsOf nodes') → GetN k kt nodes nodes' j dj →
      Out (hideAll s.heap (((x, sobj dx) :: (dx, sdict d (.ref D) V np nf) :: (D, oD) :: famOf nodes).map (·.1)))
        ((x, sobj dx) :: (dx, sdict d (.ref D) V np nf) :: (D, oD') :: famOf nodes') h' →
      Q (.ref dj.a) { s with heap := h', toks := t' }) :
    wpAny (model PySem.Challenge.pw_ij0208_01 w) A (call (.ref 124) [.ref x, .int k kt]) Q E s := by
  refine wpAny_call (enter (f := 124) _ rfl B N (by kernel_rfl) (Nat.lt_trans hroom (by decide)) (binds := [(Str.ofString "self", .ref x), (Str.ofString "node", .int k kt)]) (.of_eq rfl) (locs (by rfl)) ?_)
  intro L h₁ F N hlt
  generalize (hideAll s.heap _) = g at B F N hQ
  have hk := dict_keys hD
  rcases va_or nodes k with ⟨j, dj, hj, rfl⟩ | hno
  · have hval := kvs_at hk hj
    walk_at "WALKS"
    rename Fr _ _ _ _ => F3
    rename News _ _ _ _ => N3
    exact hQ _ _ _ _ _ _ hD ⟨hj, rfl, .inl ⟨rfl, hj⟩⟩ (Out.of F3 N3 nd)
  · have hval := va_none hno
    walk_at "WALKS"
    rename Fr _ _ _ _ => F3
    rename News _ _ _ _ => N3
    rename Nod _ => nd3
    rename Obj.IsDictOf _ _ _ => hd3
    rename_i a' da' sa' pt' n' _ _ _ _ _ _ oD2 _ _ _
    rw [stored_new hval] at hd3
    refine hQ oD2 (nodes ++ [⟨k, kt, 0, pt', a', da', sa', [], n'⟩]) nodes.length _ _ _ ?_ ⟨List.getElem?_concat_length, rfl, .inr ⟨hno, rfl, rfl, rfl, rfl, rfl⟩⟩ ((Out.of F3 N3 nd3).perm ?_)
    · simpa only [kvsOf, List.map_append, List.map_cons, List.map_nil] using hd3
    · simp only [famOf, List.flatMap_append, List.flatMap_cons, List.flatMap_nil, List.append_nil]
      exact List.perm_append_comm (l₁ := _ :: _ :: _ :: famOf nodes) (l₂ := [_, _, _])

end
section
abbrev AN := Int × Int × List Int
def absN (d : Nd) : AN := (d.key, d.np, d.succ.map (·.1))
def ens (l : List AN) (k : Int) : List AN := if ∃ t ∈ l, t.1 = k then l else l ++ [(k, 0, [])]
def onKey (k : Int) (f : AN → AN) (l : List AN) : List AN := l.map fun t => if t.1 = k then f t else t
def bump (l : List AN) (k n : Int) : List AN := onKey k (fun t => (t.1, t.2.1 + n, t.2.2)) (ens l k)
def pushS (l : List AN) (p k : Int) : List AN := onKey p (fun t => (t.1, t.2.1, t.2.2 ++ [k])) (ens l p)
def addP (l : List AN) (k : Int) (ps : List Int) : List AN := ps.foldl (fun l p => pushS l p k) (bump l k ps.length)
theorem GetN.abs {k : Int} {kt : Nat} {l l' : List Nd} {j : Nat} {d : Nd} (G : GetN k kt l l' j d) : l'.map absN = ens (l.map absN) k := by
  obtain ⟨hj, rfl, ⟨rfl, hj'⟩ | ⟨hno, rfl, rfl, e1, e2, e3⟩⟩ := G
  · unfold ens
    rw [if_pos ⟨absN d, List.mem_map_of_mem (List.mem_of_getElem? hj), rfl⟩]
  · unfold ens
    rw [if_neg]
    · simp [absN, e1, e2]
    · rintro ⟨t, ht, e⟩
      obtain ⟨x, hx, rfl⟩ := List.mem_map.mp ht
      exact hno x hx e
theorem GetN.len {k : Int} {kt : Nat} {l l' : List Nd} {j : Nat} {d : Nd} (G : GetN k kt l l' j d) : l'.length ≤ l.length + 1 := by
  obtain ⟨hj, rfl, ⟨rfl, hj'⟩ | ⟨hno, rfl, rfl, e1, e2, e3⟩⟩ := G <;> simp
theorem GetN.all {k : Int} {kt c : Nat} {l l' : List Nd} {j : Nat} {d : Nd} (G : GetN k kt l l' j d) (h : ∀ x ∈ l, x.succ.length ≤ c) : ∀ x ∈ l', x.succ.length ≤ c := by
  obtain ⟨hj, rfl, ⟨rfl, hj'⟩ | ⟨hno, rfl, rfl, e1, e2, e3⟩⟩ := G
  · exact h
  · intro x hx
    rcases List.mem_append.mp hx with hx | hx
    · exact h x hx
    · obtain rfl := List.mem_singleton.mp hx
      simp [e2]
theorem GetN.size {k : Int} {kt c : Nat} {l l' : List Nd} {j : Nat} {d : Nd} (G : GetN k kt l l' j d) (h : ∀ x ∈ l, x.succ.length ≤ c) (hc : c < 1000) : (ivals d.succ).toArray.size < 1000 := by
  have := G.all h _ (List.mem_of_getElem? G.1)
  simp; omega
theorem set_abs {l : List Nd} (hn : (l.map Nd.key).Nodup) {j : Nat} {d d' : Nd} (hj : l[j]? = some d) (f : AN → AN) (e : absN d' = f (absN d)) :
    (l.set j d').map absN = onKey d.key f (l.map absN) := by
  apply List.ext_getElem?
  intro i
  rw [onKey, List.getElem?_map, List.getElem?_map, List.getElem?_map]
  by_cases h : i = j
  · subst h
    rw [getSet hj, hj]
    simp only [Option.map_some]
    rw [e, if_pos (show (absN d).1 = d.key from rfl)]
  · rw [List.getElem?_set_ne (Ne.symm h)]
    cases q : l[i]? with
    | none => rfl
    | some x =>
      have hne : x.key ≠ d.key := fun ek => h (nodup_inj hn (x := x.key) (by rw [List.getElem?_map, q]; rfl) (by rw [List.getElem?_map, hj, ek]; rfl))
      simp [absN, hne]
theorem set_key {l : List Nd} {j : Nat} {d d' : Nd} (hj : l[j]? = some d) (e1 : d'.key = d.key) (e2 : d'.a = d.a) : kvsOf (l.set j d') = kvsOf l := by
  apply List.ext_getElem?
  intro i
  rw [kvsOf, kvsOf, List.getElem?_map, List.getElem?_map]
  by_cases h : i = j
  · subst h
    rw [getSet hj, hj]
    simp [e1, e2]
  · rw [List.getElem?_set_ne (Ne.symm h)]
theorem set_keyN {l : List Nd} {j : Nat} {d : Nd} {v : Int} {t : Nat} (hj : l[j]? = some d) : kvsOf (l.set j { d with np := v, pt := t }) = kvsOf l := set_key hj rfl rfl
theorem set_keyS {l : List Nd} {j : Nat} {d : Nd} {v : List (Int × Nat)} {t : Nat} (hj : l[j]? = some d) : kvsOf (l.set j { d with succ := v, sn := t }) = kvsOf l := set_key hj rfl rfl
theorem set_all {l : List Nd} {j c : Nat} {d' : Nd} (h : ∀ x ∈ l, x.succ.length ≤ c) (h' : d'.succ.length ≤ c) : ∀ x ∈ l.set j d', x.succ.length ≤ c := by
  intro x hx
  rcases List.mem_or_eq_of_mem_set hx with hx | rfl
  · exact h x hx
  · exact h'
theorem upd_pushF {l : List Nd} {i : Nat} {d : Nd} {k : Int} {kt : Nat} (h : l[i]? = some d) (hn : Nod (famOf l)) :
    Upd d.sa (listOf (ivals d.succ).toArray d.sn) (listOf ((ivals d.succ).toArray.push (.int k kt)) (d.sn + 1)) (famOf l) (famOf (l.set i { d with succ := d.succ ++ [(k, kt)], sn := d.sn + 1 })) := by
  have := upd_succF (sc := d.succ ++ [(k, kt)]) (n := d.sn + 1) h hn
  have e : (ivals (d.succ ++ [(k, kt)])).toArray = (ivals d.succ).toArray.push (.int k kt) := by simp [ivals]
  rwa [e] at this
section
variable {w : World} {A : Around} {E : Value → Shared → Prop} {s : Shared} {g h h' : Heap} {L : Addr} {m : Str → Option Value} {pre W W' : List (Addr × Obj)}
theorem bsHideP (F : Fr g L h m) (B : Bs w g) (N : News g L h (pre ++ W)) : Bs w (hideAll h (W.map (·.1))) :=
  bsHide (W := W) (rest := pre) F B (newsPerm N List.perm_append_comm)
theorem newsHaveP (N : News g L h (pre ++ W)) : ∀ p ∈ W, h.get? p.1 = some p.2 := fun p hp => (N p (List.mem_append_right _ hp)).1
theorem nodR (nd : Nod (pre ++ W)) : Nod W := by
  unfold Nod at nd ⊢; rw [List.map_append, List.nodup_append] at nd; exact nd.2.1
theorem backP (F : Fr g L h m) (N : News g L h (pre ++ W)) (nd : Nod (pre ++ W)) (O : Out (hideAll h (W.map (·.1))) W' h') :
    Fr g L h' m ∧ News g L h' (pre ++ W') ∧ Nod (pre ++ W') := by
  obtain ⟨F2, N2, nd2⟩ := back (W := W) (rest := pre) F (newsPerm N List.perm_append_comm) (nodPerm nd List.perm_append_comm) O
  exact ⟨F2, newsPerm N2 List.perm_append_comm, nodPerm nd2 List.perm_append_comm⟩
theorem getInfoF {x dx D : Addr} {d : SD} {V : Value} {np nf : Int} {oD : Obj} {nodes : List Nd} {k : Int} {kt : Nat} {Q : Value → Shared → Prop} (F : Fr g L s.heap m) (B : Bs w g)
    (N : News g L s.heap (pre ++ (x, sobj dx) :: (dx, sdict d (.ref D) V np nf) :: (D, oD) :: famOf nodes)) (nd : Nod (pre ++ (x, sobj dx) :: (dx, sdict d (.ref D) V np nf) :: (D, oD) :: famOf nodes))
    (hD : oD.IsDictOf (intKind Challenge.pw_ij0208_01 w) (kvsOf nodes)) (hlo : (D == sysModules) = false)
    (hsz : nodes.length < 1000) (hroom : A.depth < 420) (hu : A.units < 45) (hh : A.handled = none)
    (hQ : ∀ oD' nodes' j dj h' t', oD'.IsDictOf (intKind Challenge.pw_ij0208_01 w) (kvsOf nodes') → GetN k kt nodes nodes' j dj → nodes'[j]? = some dj → Fr g L h' m →
      News g L h' (pre ++ (x, sobj dx) :: (dx, sdict d (.ref D) V np nf) :: (D, oD') :: famOf nodes') → Nod (pre ++ (x, sobj dx) :: (dx, sdict d (.ref D) V np nf) :: (D, oD') :: famOf nodes') →
      Q (.ref dj.a) { s with heap := h', toks := t' }) :
    wpAny (model PySem.Challenge.pw_ij0208_01 w) A (call (.ref 124) [.ref x, .int k kt]) Q E s := by
  refine getInfo hD hlo (newsHaveP N) (bsHideP F B N) (nodR nd) hsz hroom hu hh fun oD' nodes' j dj h' t' hD' G O => ?_
  obtain ⟨F2, N2, nd2⟩ := backP F N nd O
  exact hQ oD' nodes' j dj h' t' hD' G G.1 F2 N2 nd2
end

end
section
section
variable {g h h' : Heap} {L : Addr} {m : Str → Option Value} {pre W W' FS FS' : List (Addr × Obj)} {oL oL' : Obj}
theorem bsHideN {w : World} (F : Fr g L h m) (B : Bs w g) (N : News g L h (pre ++ (W ++ FS))) : Bs w (hideAll h ((W ++ (L, oL) :: FS).map (·.1))) :=
  B.keeps fun b o e => hideAll_get _ (F.keep b o e) fun hb => by
    obtain ⟨p, hp, rfl⟩ := List.mem_map.mp hb
    rcases List.mem_append.mp hp with hp | hp
    · rw [(N p (by simp [hp])).2.2] at e; cases e
    · rcases List.mem_cons.mp hp with rfl | hp
      · rw [frNone F] at e; cases e
      · rw [(N p (by simp [hp])).2.2] at e; cases e
theorem baseN {a : Addr} {o : Obj} (F : Fr g L h m) (N : News g L h (pre ++ (W ++ FS))) (e : g.get? a = some o) : (hideAll h ((W ++ (L, oL) :: FS).map (·.1))).get? a = some o :=
  hideAll_get _ (F.keep a o e) fun hb => by
    obtain ⟨p, hp, rfl⟩ := List.mem_map.mp hb
    rcases List.mem_append.mp hp with hp | hp
    · rw [(N p (by simp [hp])).2.2] at e; cases e
    · rcases List.mem_cons.mp hp with rfl | hp
      · rw [frNone F] at e; cases e
      · rw [(N p (by simp [hp])).2.2] at e; cases e
theorem preN (N : News g L h (pre ++ (W ++ FS))) (nd : Nod (pre ++ (W ++ FS))) : ∀ p ∈ pre, (hideAll h ((W ++ (L, oL) :: FS).map (·.1))).get? p.1 = some p.2 := fun p hp => by
  have q := N p (List.mem_append_left _ hp)
  unfold Nod at nd
  rw [List.map_append, List.nodup_append] at nd
  refine hideAll_get _ q.1 fun hb => ?_
  obtain ⟨r, hr, e⟩ := List.mem_map.mp hb
  rcases List.mem_append.mp hr with hr | hr
  · exact nd.2.2 p.1 (List.mem_map_of_mem (f := (·.1)) hp) r.1 (by simp only [List.map_append]; exact List.mem_append_left _ (List.mem_map_of_mem (f := (·.1)) hr)) e.symm
  · rcases List.mem_cons.mp hr with rfl | hr
    · exact q.2.1 e.symm
    · exact nd.2.2 p.1 (List.mem_map_of_mem (f := (·.1)) hp) r.1 (by simp only [List.map_append]; exact List.mem_append_right _ (List.mem_map_of_mem (f := (·.1)) hr)) e.symm
theorem haveN (N : News g L h (pre ++ (W ++ FS))) (hL : h.get? L = some oL) : ∀ p ∈ W ++ (L, oL) :: FS, h.get? p.1 = some p.2 := fun p hp => by
  rcases List.mem_append.mp hp with hp | hp
  · exact (N p (by simp [hp])).1
  · rcases List.mem_cons.mp hp with rfl | hp
    · exact hL
    · exact (N p (by simp [hp])).1
theorem nodN (N : News g L h (pre ++ (W ++ FS))) (nd : Nod (pre ++ (W ++ FS))) : Nod (W ++ (L, oL) :: FS) := by
  have h1 : Nod (W ++ FS) := nodR nd
  have h2 : Nod ((L, oL) :: (W ++ FS)) := nod_cons.mpr ⟨fun q hq => (N q (List.mem_append_right _ hq)).2.1, h1⟩
  exact nodPerm h2 List.perm_middle
theorem backN (F : Fr g L h m) (N : News g L h (pre ++ (W ++ FS))) (nd : Nod (pre ++ (W ++ FS))) (hL : h.get? L = some oL)
    (O : Out (hideAll h ((W ++ (L, oL) :: FS).map (·.1))) (W' ++ (L, oL') :: FS') h') (hs : ∃ sl, oL' = { oL with slots := sl }) :
    Fr g L h' m ∧ News g L h' (pre ++ (W' ++ FS')) ∧ Nod (pre ++ (W' ++ FS')) := by
  obtain ⟨sl, rfl⟩ := hs
  obtain ⟨o1, es, ep, h1, h2, r⟩ := F.ns
  rw [hL] at h1; cases h1
  have hb : ∀ a o, g.get? a = some o → (hideAll h ((W ++ (L, oL) :: FS).map (·.1))).get? a = some o := fun a o e => baseN F N e
  have hp := preN (oL := oL) N nd
  have hO : Nod ((L, { oL with slots := sl }) :: (W' ++ FS')) := nodPerm O.nod List.perm_middle.symm
  have own : ∀ p ∈ W' ++ FS', h'.get? p.1 = some p.2 ∧ p.1 ≠ L ∧ g.get? p.1 = none := fun p hq => by
    have hq' : p ∈ W' ++ (L, { oL with slots := sl }) :: FS' := by
      rcases List.mem_append.mp hq with hq | hq
      · exact List.mem_append_left _ hq
      · exact List.mem_append_right _ (.tail _ hq)
    refine ⟨(O.own p hq').1, (nod_cons.mp hO).1 p hq, ?_⟩
    cases e : g.get? p.1 with
    | none => rfl
    | some o => have := (O.own p hq').2; rw [hb _ _ e] at this; cases this
  refine ⟨⟨⟨_, es, ep, (O.own _ (List.mem_append_right _ (.head _))).1, h2, r⟩, fun b o e => O.keep _ _ (hb _ _ e), F.above⟩, fun p hq => ?_, ?_⟩
  · rcases List.mem_append.mp hq with hq | hq
    · exact ⟨O.keep _ _ (hp p hq), (N p (List.mem_append_left _ hq)).2⟩
    · exact own p hq
  · have n1 : Nod pre := nodL nd
    have n2 : Nod (W' ++ FS') := (nod_cons.mp hO).2
    unfold Nod at n1 n2 ⊢
    rw [List.map_append, List.nodup_append]
    refine ⟨n1, n2, fun a ha b hb' e => ?_⟩
    obtain ⟨p, hp1, rfl⟩ := List.mem_map.mp ha
    obtain ⟨q, hq1, rfl⟩ := List.mem_map.mp hb'
    have hq' : q ∈ W' ++ (L, { oL with slots := sl }) :: FS' := by
      rcases List.mem_append.mp hq1 with hq | hq
      · exact List.mem_append_left _ hq
      · exact List.mem_append_right _ (.tail _ hq)
    have := (O.own q hq').2
    rw [← e, hp p hp1] at this; cases this
end

end
section
/-- what a node has in an abstract sorter -/
def VN (l : List AN) (x : Int) : Int × List Int := ((l.find? fun t => t.1 = x).map (·.2)).getD (0, [])
theorem VN_nil (x : Int) : VN [] x = (0, []) := rfl
theorem VN_cons (t : AN) (l : List AN) (x : Int) : VN (t :: l) x = if t.1 = x then t.2 else VN l x := by
  unfold VN; rw [List.find?_cons]
  by_cases h : t.1 = x <;> simp [h]
theorem VN_ens (l : List AN) (k x : Int) : VN (ens l k) x = VN l x := by
  unfold ens
  split
  · rfl
  · rename_i h
    induction l with
    | nil => rw [List.nil_append, VN_cons, VN_nil]; split <;> rfl
    | cons t r ih =>
      rw [List.cons_append, VN_cons, VN_cons, ih fun ⟨t', ht, e⟩ => h ⟨t', .tail _ ht, e⟩]
theorem ens_keys (l : List AN) (k : Int) : (ens l k).map (·.1) = if k ∈ l.map (·.1) then l.map (·.1) else l.map (·.1) ++ [k] := by
  unfold ens
  by_cases h : ∃ t ∈ l, t.1 = k
  · rw [if_pos h, if_pos (List.mem_map.mpr h)]
  · rw [if_neg h, if_neg fun hm => h (List.mem_map.mp hm)]; simp
theorem ens_mem (l : List AN) (k x : Int) : x ∈ (ens l k).map (·.1) ↔ x ∈ l.map (·.1) ∨ x = k := by
  rw [ens_keys]; split
  · constructor
    · exact .inl
    · rintro (h | rfl) <;> assumption
  · simp
theorem ens_nodup {l : List AN} (h : (l.map (·.1)).Nodup) (k : Int) : ((ens l k).map (·.1)).Nodup := by
  rw [ens_keys]; split
  · exact h
  · rename_i hk
    rw [List.nodup_append]; exact ⟨h, by simp, fun a ha b hb e => hk (by rw [← List.mem_singleton.mp hb, ← e]; exact ha)⟩
theorem onKey_keys (k : Int) (f : AN → AN) (hf : ∀ t, (f t).1 = t.1) (l : List AN) : (onKey k f l).map (·.1) = l.map (·.1) := by
  unfold onKey; rw [List.map_map]; apply List.map_congr_left; intro t _; simp only [Function.comp]; split
  · exact hf t
  · rfl
theorem VN_onKey (k : Int) (f : Int × List Int → Int × List Int) (l : List AN) (hk : k ∈ l.map (·.1)) (x : Int) : VN (onKey k (fun t => (t.1, f t.2)) l) x = if x = k then f (VN l k) else VN l x := by
  induction l with
  | nil => cases hk
  | cons t r ih =>
    show VN ((if t.1 = k then (t.1, f t.2) else t) :: onKey k (fun t => (t.1, f t.2)) r) x = _
    rw [VN_cons]
    by_cases ht : t.1 = k
    · rw [if_pos ht]
      show (if t.1 = x then f t.2 else VN (onKey k (fun t => (t.1, f t.2)) r) x) = _
      by_cases hx : x = k
      · rw [if_pos (ht.trans hx.symm), if_pos hx, VN_cons, if_pos ht]
      · rw [if_neg fun e => hx (e.symm.trans ht), if_neg hx, VN_cons, if_neg fun e => hx (e.symm.trans ht)]
        by_cases hr : k ∈ r.map (·.1)
        · rw [ih hr, if_neg hx]
        · congr 1
          unfold onKey
          conv => rhs; rw [← List.map_id r]
          apply List.map_congr_left
          intro t' ht'
          rw [if_neg fun e => hr (List.mem_map.mpr ⟨t', ht', e⟩)]; rfl
    · rw [if_neg ht]
      rw [List.map_cons, List.mem_cons] at hk
      have hr := hk.resolve_left fun e => ht e.symm
      rw [ih hr]
      by_cases hx : x = k
      · rw [if_pos hx, if_pos hx, if_neg fun e => ht (e.trans hx), VN_cons, if_neg ht]
      · rw [if_neg hx, if_neg hx, VN_cons]
theorem VN_bump (l : List AN) (k n x : Int) : VN (bump l k n) x = if x = k then ((VN l k).1 + n, (VN l k).2) else VN l x := by
  unfold bump
  have := VN_onKey k (fun v => (v.1 + n, v.2)) (ens l k) ((ens_mem l k k).mpr (.inr rfl)) x
  rw [VN_ens, VN_ens] at this
  exact this
theorem VN_pushS (l : List AN) (p k x : Int) : VN (pushS l p k) x = if x = p then ((VN l p).1, (VN l p).2 ++ [k]) else VN l x := by
  unfold pushS
  have := VN_onKey p (fun v => (v.1, v.2 ++ [k])) (ens l p) ((ens_mem l p p).mpr (.inr rfl)) x
  rw [VN_ens, VN_ens] at this
  exact this
theorem bump_keys (l : List AN) (k n : Int) : (bump l k n).map (·.1) = (ens l k).map (·.1) := onKey_keys k (fun t => (t.1, t.2.1 + n, t.2.2)) (fun _ => rfl) _
theorem pushS_keys (l : List AN) (p k : Int) : (pushS l p k).map (·.1) = (ens l p).map (·.1) := onKey_keys p (fun t => (t.1, t.2.1, t.2.2 ++ [k])) (fun _ => rfl) _
theorem pushAll (k : Int) : ∀ (ps : List Int) (l : List AN), (l.map (·.1)).Nodup →
    ((ps.foldl (fun l p => pushS l p k) l).map (·.1)).Nodup ∧ (∀ x, x ∈ (ps.foldl (fun l p => pushS l p k) l).map (·.1) ↔ x ∈ l.map (·.1) ∨ x ∈ ps) ∧
      ∀ x, VN (ps.foldl (fun l p => pushS l p k) l) x = ((VN l x).1, (VN l x).2 ++ List.replicate (ps.count x) k)
  | [], l, h => ⟨h, by simp, by simp⟩
  | p :: r, l, h => by
    have h1 : ((pushS l p k).map (·.1)).Nodup := by rw [pushS_keys]; exact ens_nodup h p
    obtain ⟨a, b, c⟩ := pushAll k r (pushS l p k) h1
    refine ⟨a, fun x => ?_, fun x => ?_⟩
    · rw [List.foldl_cons, b, pushS_keys, ens_mem, List.mem_cons, or_assoc]
    · rw [List.foldl_cons, c, VN_pushS]
      by_cases hx : x = p
      · subst hx
        rw [if_pos rfl, List.count_cons_self, List.append_assoc]; rfl
      · rw [if_neg hx, List.count_cons_of_ne (Ne.symm hx)]
theorem addP_all (k : Int) (ps : List Int) (l : List AN) (h : (l.map (·.1)).Nodup) :
    ((addP l k ps).map (·.1)).Nodup ∧ (∀ x, x ∈ (addP l k ps).map (·.1) ↔ x ∈ l.map (·.1) ∨ x = k ∨ x ∈ ps) ∧
      ∀ x, VN (addP l k ps) x = ((VN l x).1 + (if x = k then (ps.length : Int) else 0), (VN l x).2 ++ List.replicate (ps.count x) k) := by
  have h1 : ((bump l k ps.length).map (·.1)).Nodup := by rw [bump_keys]; exact ens_nodup h k
  obtain ⟨a, b, c⟩ := pushAll k ps (bump l k ps.length) h1
  refine ⟨a, fun x => ?_, fun x => ?_⟩
  · unfold addP; rw [b, bump_keys, ens_mem, or_assoc]
  · unfold addP; rw [c, VN_bump]
    by_cases hx : x = k
    · subst hx; simp
    · simp [hx]
/-- the sorter behind the first m adds -/
def sorterOf (pd : Int → List Int) (m : Nat) : List AN := (List.range m).foldl (fun l (g : Nat) => addP l (g : Int) (pd g)) []
theorem sorter_all (pd : Int → List Int) : ∀ m, ((sorterOf pd m).map (·.1)).Nodup ∧ (∀ x : Int, x ∈ (sorterOf pd m).map (·.1) ↔ ∃ g : Nat, g < m ∧ (x = g ∨ x ∈ pd g)) ∧
    ∀ x : Int, VN (sorterOf pd m) x = (if 0 ≤ x ∧ x < m then ((pd x).length : Int) else 0, (List.range m).flatMap fun (g : Nat) => List.replicate ((pd g).count x) (g : Int))
  | 0 => ⟨List.nodup_nil, by simp [sorterOf], fun x => by rw [if_neg (by omega)]; rfl⟩
  | m + 1 => by
    obtain ⟨a, b, c⟩ := sorter_all pd m
    have e : sorterOf pd (m + 1) = addP (sorterOf pd m) m (pd m) := by unfold sorterOf; rw [List.range_succ, List.foldl_append]; rfl
    obtain ⟨a', b', c'⟩ := addP_all m (pd m) (sorterOf pd m) a
    rw [e]
    refine ⟨a', fun x => ?_, fun x => ?_⟩
    · rw [b', b]
      constructor
      · rintro (⟨g, hg, h⟩ | h | h)
        · exact ⟨g, by omega, h⟩
        · exact ⟨m, by omega, .inl h⟩
        · exact ⟨m, by omega, .inr h⟩
      · rintro ⟨g, hg, h⟩
        rcases Nat.lt_or_ge g m with q | q
        · exact .inl ⟨g, q, h⟩
        · obtain rfl : g = m := by omega
          exact .inr h
    · rw [c', c, List.range_succ, List.flatMap_append]
      congr 1
      · by_cases h1 : x = m
        · subst h1; rw [if_neg (by omega), if_pos rfl, if_pos (by omega), Int.zero_add]
        · rw [if_neg h1, Int.add_zero]
          by_cases h2 : 0 ≤ x ∧ x < m
          · rw [if_pos h2, if_pos (by omega)]
          · rw [if_neg h2, if_neg (by omega)]
      · simp
/-- the decrements of one finished node -/
theorem relaxAll : ∀ (l : List Int) (f : Int → Int) (rd : List Int),
    (∀ x, (l.foldl relax (f, rd)).1 x = f x - l.count x) ∧ (∀ x, x ∈ (l.foldl relax (f, rd)).2 ↔ x ∈ rd ∨ (0 < f x ∧ f x ≤ l.count x)) ∧
      (rd.Nodup → (∀ x ∈ rd, f x ≤ 0) → (l.foldl relax (f, rd)).2.Nodup)
  | [], f, rd => ⟨fun x => by simp, fun x => by simp; omega, fun h _ => h⟩
  | a :: r, f, rd => by
    obtain ⟨h1, h2, h3⟩ := relaxAll r (upf f a (f a - 1)) (if f a - 1 = 0 then rd ++ [a] else rd)
    rw [List.foldl_cons]
    refine ⟨fun x => ?_, fun x => ?_, fun hn hx => ?_⟩
    · show (r.foldl relax (upf f a (f a - 1), if f a - 1 = 0 then rd ++ [a] else rd)).1 x = _
      rw [h1]; unfold upf
      by_cases e : x = a
      · subst e; rw [if_pos rfl, List.count_cons_self]; omega
      · rw [if_neg e, List.count_cons_of_ne (Ne.symm e)]
    · show x ∈ (r.foldl relax (upf f a (f a - 1), if f a - 1 = 0 then rd ++ [a] else rd)).2 ↔ _
      rw [h2]; unfold upf
      by_cases e : x = a
      · subst e
        rw [if_pos rfl, List.count_cons_self]
        split
        · simp; omega
        · constructor
          · rintro (h | h)
            · exact .inl h
            · exact .inr (by omega)
          · rintro (h | h)
            · exact .inl h
            · exact .inr (by omega)
      · rw [if_neg e, List.count_cons_of_ne (Ne.symm e)]
        split
        · simp [e]
        · rfl
    · show (r.foldl relax (upf f a (f a - 1), if f a - 1 = 0 then rd ++ [a] else rd)).2.Nodup
      refine h3 ?_ ?_
      · split
        · rename_i h0
          rw [List.nodup_append]
          refine ⟨hn, by simp, fun b hb c hc e => ?_⟩
          rw [List.mem_singleton.mp hc] at e
          have := hx b hb; rw [e] at this; omega
        · exact hn
      · intro x hxm
        unfold upf
        by_cases e : x = a
        · subst e; rw [if_pos rfl]
          split at hxm
          · omega
          · have := hx x hxm; omega
        · rw [if_neg e]
          split at hxm
          · rcases List.mem_append.mp hxm with h | h
            · exact hx x h
            · exact absurd (List.mem_singleton.mp h) e
          · exact hx x hxm

end
section
section
variable {n : Nat} {pd : Int → List Int}
def rng (n : Nat) (x : Int) : Prop := 0 ≤ x ∧ x < n
def scOf (n : Nat) (pd : Int → List Int) (x : Int) : List Int := (List.range n).flatMap fun (g : Nat) => List.replicate ((pd g).count x) (g : Int)
theorem count_scOf (x t : Int) : ∀ n : Nat, (scOf n pd x).count t = if 0 ≤ t ∧ t < n then (pd t).count x else 0
  | 0 => by rw [if_neg (by omega)]; rfl
  | n + 1 => by
    have ih := count_scOf x t n
    unfold scOf at ih ⊢
    rw [List.range_succ, List.flatMap_append, List.count_append, ih]
    simp only [List.flatMap_cons, List.flatMap_nil, List.append_nil, List.count_replicate]
    by_cases e : t = n
    · subst e; rw [if_neg (by omega), if_pos (by simp), if_pos (by omega)]; simp
    · have e' : ¬ ((n : Int) == t) = true := by simp; omega
      rw [if_neg e', Nat.add_zero]
      by_cases h : 0 ≤ t ∧ t < n
      · rw [if_pos h, if_pos (by omega)]
      · rw [if_neg h, if_neg (by omega)]
def remOf (pd : Int → List Int) (Gs : List Int) (k : Int) : Nat := ((pd k).filter fun p => p ∉ Gs).length
def fK (pd : Int → List Int) (Gs : List Int) (k : Int) : Int := if k ∈ Gs then -2 else remOf pd Gs k
theorem rem_zero {Gs : List Int} {k : Int} : remOf pd Gs k = 0 ↔ ∀ p ∈ pd k, p ∈ Gs := by
  unfold remOf
  rw [List.length_eq_zero_iff, List.filter_eq_nil_iff]
  simp
theorem rem_snoc {Gs : List Int} {g : Int} (hg : g ∉ Gs) (k : Int) : remOf pd (Gs ++ [g]) k + (pd k).count g = remOf pd Gs k := by
  unfold remOf
  induction pd k with
  | nil => rfl
  | cons a r ih =>
    rw [List.filter_cons, List.filter_cons]
    by_cases e : a = g
    · subst e
      rw [List.count_cons_self, if_neg (by simp), if_pos (by simpa using hg), List.length_cons]; omega
    · rw [List.count_cons_of_ne e]
      by_cases h : a ∈ Gs
      · rw [if_neg (by simp [h]), if_neg (by simp [h])]; exact ih
      · rw [if_pos (by simp [h, e]), if_pos (by simp [h]), List.length_cons, List.length_cons]; omega
structure Kahn (n : Nat) (pd : Int → List Int) (Gs R : List Int) : Prop where
  nodG : Gs.Nodup
  rngG : ∀ g ∈ Gs, rng n g
  cl : ∀ (i : Nat) g, Gs[i]? = some g → ∀ p ∈ pd g, p ∈ Gs.take i
  nodR : R.Nodup
  memR : ∀ g, g ∈ R ↔ rng n g ∧ g ∉ Gs ∧ ∀ p ∈ pd g, p ∈ Gs
variable {Gs R : List Int}
theorem Kahn.cl' (K : Kahn n pd Gs R) {g p : Int} (hg : g ∈ Gs) (hp : p ∈ pd g) : p ∈ Gs := by
  obtain ⟨i, hi⟩ := List.getElem?_of_mem hg
  exact List.mem_of_mem_take (K.cl i g hi p hp)
def foK (pd : Int → List Int) (Gs R : List Int) (k : Int) : Int := if k ∈ R then -1 else fK pd Gs k
theorem Kahn.steps (K : Kahn n pd Gs R) (hpd : ∀ g p, p ∈ pd g → p ≠ g) : ∀ m, m ≤ R.length →
    (∀ k, rng n k → (doneAll (scOf n pd) (R.take m) (foK pd Gs R, [])).1 k = if k ∈ R.take m then -2 else if k ∈ R then -1 else fK pd (Gs ++ R.take m) k) ∧
    (doneAll (scOf n pd) (R.take m) (foK pd Gs R, [])).2.Nodup ∧
    ∀ k, k ∈ (doneAll (scOf n pd) (R.take m) (foK pd Gs R, [])).2 ↔ rng n k ∧ k ∉ Gs ∧ k ∉ R ∧ ∀ p ∈ pd k, p ∈ Gs ++ R.take m
  | 0, _ => by
    refine ⟨fun k hk => ?_, List.nodup_nil, fun k => ?_⟩
    · show foK pd Gs R k = _
      rw [List.take_zero, if_neg (by simp), List.append_nil]; rfl
    · rw [List.take_zero, List.append_nil]
      constructor
      · intro h; cases h
      · rintro ⟨h1, h2, h3, h4⟩; exact absurd ((K.memR k).mpr ⟨h1, h2, h4⟩) h3
  | m + 1, hm => by
    obtain ⟨i1, i2, i3⟩ := K.steps hpd m (by omega)
    have hlt : m < R.length := by omega
    obtain ⟨g, hg⟩ : ∃ g, R[m]? = some g := ⟨R[m], List.getElem?_eq_getElem hlt⟩
    have et : R.take (m + 1) = R.take m ++ [g] := by rw [List.take_add_one, hg]; rfl
    have hgR : g ∈ R := List.mem_of_getElem? hg
    obtain ⟨hgr, hgG, hgp⟩ := (K.memR g).mp hgR
    have hgm : g ∉ R.take m := by
      intro h
      obtain ⟨j, hj⟩ := List.getElem?_of_mem h
      have hj' := (List.getElem?_eq_some_iff.mp hj).1
      rw [List.length_take] at hj'
      rw [List.getElem?_take_of_lt (by omega)] at hj
      have := nodup_inj K.nodR hj hg
      omega
    have hsub : ∀ x, x ∈ R.take m → x ∈ R := fun x h => List.mem_of_mem_take h
    have hsnoc : ∀ k, remOf pd (Gs ++ (R.take m ++ [g])) k + (pd k).count g = remOf pd (Gs ++ R.take m) k := fun k => by
      rw [← List.append_assoc]; exact rem_snoc (by simp [hgG, hgm]) k
    have hz : ∀ k, rng n k → k ∈ R → (pd k).count g = 0 := fun k _ hk => List.count_eq_zero.mpr fun h => hgG (((K.memR k).mp hk).2.2 g h)
    have hzG : ∀ k, k ∈ Gs → (pd k).count g = 0 := fun k hk => List.count_eq_zero.mpr fun h => hgG (K.cl' hk h)
    generalize hst : doneAll (scOf n pd) (R.take m) (foK pd Gs R, []) = st at i1 i2 i3
    have e1 : doneAll (scOf n pd) (R.take (m + 1)) (foK pd Gs R, []) = (scOf n pd g).foldl relax (upf st.1 g (-2), st.2) := by
      rw [et]; unfold doneAll at hst ⊢; rw [List.foldl_append, hst]; rfl
    obtain ⟨r1, r2, r3⟩ := relaxAll (scOf n pd g) (upf st.1 g (-2)) st.2
    rw [e1, et]
    have hup : ∀ k, k ≠ g → upf st.1 g (-2) k = st.1 k := fun k h => by unfold upf; rw [if_neg h]
    have hupg : upf st.1 g (-2) g = -2 := by unfold upf; rw [if_pos rfl]
    have hcnt : ∀ k, rng n k → ((scOf n pd g).count k : Nat) = (pd k).count g := fun k hk => by rw [count_scOf, if_pos (show 0 ≤ k ∧ k < n from hk)]
    refine ⟨fun k hk => ?_, r3 i2 fun x hx => ?_, fun k => ?_⟩
    · rw [r1, hcnt k hk]
      by_cases e : k = g
      · subst e
        rw [hupg, hz k hk hgR, if_pos (show k ∈ R.take m ++ [k] from by simp)]; rfl
      · rw [hup k e, i1 k hk]
        by_cases hm' : k ∈ R.take m
        · rw [if_pos hm', if_pos (List.mem_append_left _ hm'), hz k hk (hsub k hm')]; rfl
        · rw [if_neg hm', if_neg (show ¬ k ∈ R.take m ++ [g] from by simp [hm', e])]
          by_cases hR : k ∈ R
          · rw [if_pos hR, if_pos hR, hz k hk hR]; rfl
          · rw [if_neg hR, if_neg hR]
            unfold fK
            by_cases hG : k ∈ Gs
            · rw [if_pos (List.mem_append_left _ hG), if_pos (List.mem_append_left _ hG), hzG k hG]; rfl
            · rw [if_neg (show ¬ k ∈ Gs ++ R.take m from by simp [hG, hm']), if_neg (show ¬ k ∈ Gs ++ (R.take m ++ [g]) from by simp [hG, hm', e])]
              have := hsnoc k; omega
    · obtain ⟨x1, x2, x3, x4⟩ := (i3 x).mp hx
      have hne : x ≠ g := fun e => x3 (e ▸ hgR)
      rw [hup x hne, i1 x x1, if_neg fun h => x3 (hsub x h), if_neg x3]
      unfold fK
      split
      · omega
      · rw [rem_zero.mpr x4]; exact Int.le_refl _
    · rw [r2, i3]
      constructor
      · rintro (⟨h1, h2, h3, h4⟩ | ⟨h1, h2⟩)
        · exact ⟨h1, h2, h3, fun p hp => by have := h4 p hp; simp only [List.mem_append] at this ⊢; rcases this with q | q; exact .inl q; exact .inr (.inl q)⟩
        · have hk : rng n k := by
            apply Classical.byContradiction; intro h
            rw [count_scOf, if_neg (show ¬ (0 ≤ k ∧ k < n) from h)] at h2; omega
          have hne : k ≠ g := fun e => by rw [e, hupg] at h1; omega
          rw [hup k hne, i1 k hk] at h1 h2
          rw [hcnt k hk] at h2
          have hm' : k ∉ R.take m := fun h => by rw [if_pos h] at h1; omega
          rw [if_neg hm'] at h1 h2
          have hR : k ∉ R := fun h => by rw [if_pos h] at h1; omega
          rw [if_neg hR] at h1 h2
          unfold fK at h1 h2
          have hG : k ∉ Gs ++ R.take m := fun h => by rw [if_pos h] at h1; omega
          rw [if_neg hG] at h1 h2
          refine ⟨hk, fun h => hG (List.mem_append_left _ h), hR, rem_zero.mp ?_⟩
          have := hsnoc k; omega
      · rintro ⟨h1, h2, h3, h4⟩
        by_cases q : ∀ p ∈ pd k, p ∈ Gs ++ R.take m
        · exact .inl ⟨h1, h2, h3, q⟩
        · have hne : k ≠ g := fun e => h3 (e ▸ hgR)
          have hm' : k ∉ R.take m := fun h => h3 (hsub k h)
          rw [hup k hne, i1 k h1, if_neg hm', if_neg h3, hcnt k h1]
          unfold fK
          rw [if_neg (by simp [h2, hm'])]
          have z := rem_zero.mpr h4
          have nz : remOf pd (Gs ++ R.take m) k ≠ 0 := fun h => q (rem_zero.mp h)
          have := hsnoc k
          exact .inr (by omega)
theorem Kahn.next (K : Kahn n pd Gs R) (hpd : ∀ g p, p ∈ pd g → p ≠ g) : Kahn n pd (Gs ++ R) (doneAll (scOf n pd) R (foK pd Gs R, [])).2 := by
  obtain ⟨h1, h2, h3⟩ := K.steps hpd R.length (Nat.le_refl _)
  rw [List.take_length] at h1 h2 h3
  refine ⟨?_, fun g hg => ?_, fun i g hg p hp => ?_, h2, fun g => ?_⟩
  · rw [List.nodup_append]; exact ⟨K.nodG, K.nodR, fun a ha b hb e => ((K.memR b).mp hb).2.1 (e ▸ ha)⟩
  · rcases List.mem_append.mp hg with h | h
    · exact K.rngG g h
    · exact ((K.memR g).mp h).1
  · rcases Nat.lt_or_ge i Gs.length with q | q
    · rw [List.getElem?_append_left q] at hg
      rw [List.take_append_of_le_length (by omega)]
      exact K.cl i g hg p hp
    · rw [List.getElem?_append_right q] at hg
      rw [List.take_append, List.take_of_length_le q]
      exact List.mem_append_left _ (((K.memR g).mp (List.mem_of_getElem? hg)).2.2 p hp)
  · rw [h3, List.mem_append, not_or]
    exact ⟨fun ⟨a, b, c, d⟩ => ⟨a, ⟨b, c⟩, d⟩, fun ⟨a, ⟨b, c⟩, d⟩ => ⟨a, b, c, d⟩⟩
end

end
local macro_rules | `(tactic| walk_at "UPD") => `(tactic| first
  | with_reducible exact upd_npF (by assumption) (by assumption)
  | with_reducible exact upd_pushF (by assumption) (by assumption)
  | with_reducible exact upd_pushF (getSet (by assumption)) (by assumption)
  | exact updH (by assumption)
  | (refine' updT ?a ?b ?c; (case a => assumption); (case b => walk_at "MEM"); (case c => (intro hn9; walk_at "UPD"))))
local macro_rules | `(tactic| walk_at "call ref") => `(tactic| ((with_reducible show wpAny _ _ (call (Value.ref 124) _) _ _ _); k_dflt (refine' getInfoF (pre := [_]) ?F ?B ?N ?nd ?d ?lo ?z ?r ?u ?hh ?_); (case F => assumption); (case B => assumption); (case N => assumption); (case nd => assumption); (case d => assumption); (case lo => assumption); (case z => first | assumption | omega); (case r => walk_at "DEPTH"); (case u => walk_at "DEPTH"); (case hh => assumption); intro oD' nodes' j' dj' h' t' hD' G' hj' F' N' nd'))
local macro_rules | `(tactic| walk_at "call ref") => `(tactic| ((with_reducible show wpAny _ _ (call (Value.ref 124) _) _ _ _); k_dflt (refine' getInfoF (pre := [_, _]) ?F ?B ?N ?nd ?d ?lo ?z ?r ?u ?hh ?_); (case F => assumption); (case B => assumption); (case N => assumption); (case nd => assumption); (case d => assumption); (case lo => assumption); (case z => first | assumption | omega); (case r => walk_at "DEPTH"); (case u => walk_at "DEPTH"); (case hh => assumption); intro oD' nodes' j' dj' h' t' hD' G' hj' F' N' nd'))
section
theorem reset_B5 : True := by
  w_top off
  trivial
theorem addSpec {w : World} {A : Around} {s : Shared} {x dx D : Addr} {d : SD} {np nf : Int} {oD : Obj} {nodes : List Nd} {k : Int} {kt c : Nat} {ps : List (Int × Nat)} {Q : Value → Shared → Prop}
    (hD : oD.IsDictOf (intKind Challenge.pw_ij0208_01 w) (kvsOf nodes)) (hlo : (D == sysModules) = false)
    (N : ∀ p ∈ (x, sobj dx) :: (dx, sdict d (.ref D) .none np nf) :: (D, oD) :: famOf nodes, s.heap.get? p.1 = some p.2)
    (B : Bs w (hideAll s.heap (((x, sobj dx) :: (dx, sdict d (.ref D) .none np nf) :: (D, oD) :: famOf nodes).map (·.1))))
    (nd : Nod ((x, sobj dx) :: (dx, sdict d (.ref D) .none np nf) :: (D, oD) :: famOf nodes))
    (hsz : nodes.length ≤ 100) (hsz1 : ps.length ≤ 100) (hsz2 : ∀ d ∈ nodes, d.succ.length ≤ c) (hc : c ≤ 500)
    (hroom : A.depth < 419) (hu : A.units < 40) (hh : A.handled = none) {E : Value → Shared → Prop}
    (hQ : ∀ oD' nodes' h' t', oD'.IsDictOf (intKind Challenge.pw_ij0208_01 w) (kvsOf nodes') → nodes'.map absN = addP (nodes.map absN) k (ps.map (·.1)) → (∀ d ∈ nodes', d.succ.length ≤ c + ps.length) → nodes'.length ≤ nodes.length + 1 + ps.length →
      Out (hideAll s.heap (((x, sobj dx) :: (dx, sdict d (.ref D) .none np nf) :: (D, oD) :: famOf nodes).map (·.1)))
        ((x, sobj dx) :: (dx, sdict d (.ref D) .none np nf) :: (D, oD') :: famOf nodes') h' →
      Q .none { s with heap := h', toks := t' }) :
    codeAny (model PySem.Challenge.pw_ij0208_01 w) A (.call (.ref 131) ⟨.ref x :: .int k kt :: ivals ps, []⟩) (fun r s' => match r with | .ok (.ret v) => Q v s' | .ok _ => False | .error e => E e s') s := by
  refine id (enterS (f := 131) (vs := ivals ps) (binds := fun D => [(Str.ofString "self", .ref x), (Str.ofString "node", .int k kt), (Str.ofString "predecessors", .ref D)]) _ rfl B N nd (by kernel_rfl) (Nat.lt_trans hroom (by decide))
    (fun M A E Q h => bindStar2 rfl rfl rfl (by rw [sizeLine_eq, List.length_map]; omega) h) (fun D => locs (by rfl)) ?_)
  intro T L h₁ F N nd0
  generalize (hideAll s.heap _) = g at B F N hQ
  have hz : (ivals ps).length < 1000000 := by simp; omega
  walk_at "WALKS"
  rename Nod _ => nd1
  change wpAny _ _ _ _ _ _
  rename Fr _ _ _ _ => F1
  rename News _ _ _ _ => N1
  rename GetN _ _ _ _ _ _ => G1
  rename Obj.IsDictOf _ _ _ => hD1
  obtain ⟨m₀, hm0, F1⟩ := frNamed F1
  have hk1 := dict_keys hD1
  have h9 := G1.all hsz2 _ (List.mem_of_getElem? G1.1)
  refine iterT (items := (ivals ps).toArray) (nt := 0) (fun i m nw => ∃ oD' nodes', nw = (T, tupObj (ivals ps)) :: (x, sobj dx) :: (dx, sdict d (.ref D) .none np nf) :: (D, oD') :: famOf nodes' ∧
    oD'.IsDictOf (intKind Challenge.pw_ij0208_01 w) (kvsOf nodes') ∧ nodes'.map absN = ((ps.map (·.1)).take i).foldl (fun l p => pushS l p k) (bump (nodes.map absN) k ps.length) ∧ (∀ d ∈ nodes', d.succ.length ≤ c + i) ∧ nodes'.length ≤ nodes.length + 1 + i ∧
    ∃ u : Str → Option Value, m = fun y => if (["pred", "pred_info"] : List Str).contains y then u y else m₀ y) hh F1 N1 nd1 (.inl ?_) ⟨_, _, rfl, ?_, ?_, ?_, ?_, m₀, by funext y; simp⟩ ?_ ?_
  · rintro i m nw ⟨oD', nodes', rfl, _⟩; exact .head _
  · rw [set_keyN G1.1]; exact hD1
  · rw [set_abs hk1 G1.1 (fun t => (t.1, t.2.1 + ps.length, t.2.2)) (by simp [absN]), G1.abs, G1.2.1]; rfl
  · exact set_all (G1.all hsz2) h9
  · rw [List.length_set]; exact G1.len
  · rintro I i v m nw h tk o hi hIlt ⟨oD', nodes', rfl, hD2, habs, hs2, hl2, u, rfl⟩ nd2 F2 N2
    subst hm0
    obtain ⟨p, hp, rfl⟩ : ∃ p, ps[i]? = some p ∧ v = .int p.1 p.2 := by
      simp only [List.getElem?_toArray, List.getElem?_map, Option.map_eq_some_iff] at hi
      obtain ⟨p, hp, rfl⟩ := hi
      exact ⟨p, hp, rfl⟩
    have hip := (List.getElem?_eq_some_iff.mp hp).1
    have hl3 : nodes'.length < 1000 := by omega
    replace F2 : Fr g L h _ := F2
    replace N2 : News g L h _ := N2
    refine cutQ fun Q6 hQ6 => ?_
    walk_at "WALKS"
    rename GetN _ _ _ _ _ _ => G2
    rename Obj.IsDictOf _ _ _ => hD3
    have hlenr := G2.size hs2 (by omega)
    walk_at "WALKS"
    rename Nod _ => nd3
    rename Fr _ _ _ _ => F3
    rename News _ _ _ _ => N3
    have hk3 := dict_keys hD3
    have h9 := G2.all hs2 _ (List.mem_of_getElem? G2.1)
    refine hQ6 _ _ ?_
    refine ⟨_, _, _, _, rfl, F3, N3, nd3, _, _, rfl, ?_, ?_, ?_, ?_, ?_⟩
    · rw [set_keyS G2.1]; exact hD3
    · rw [set_abs hk3 G2.1 (fun t => (t.1, t.2.1, t.2.2 ++ [k])) (by simp [absN]), G2.abs, G2.2.1, take_foldl _ _ (x := p.1) (by rw [List.getElem?_map, hp]; rfl), ← habs]; rfl
    · exact set_all (fun x hx => Nat.le_succ_of_le (G2.all hs2 x hx)) (by simp; omega)
    · rw [List.length_set]; have := G2.len; omega
    · walk_at "FRAME"
  · rintro m nw h3 tk3 ⟨oD', nodes', rfl, hD2, habs, hs2, hl2, u, rfl⟩ nd4 F4 N4
    subst hm0
    replace F4 : Fr g L h3 _ := F4
    replace N4 : News g L h3 _ := N4
    have eN : (ivals ps).toArray.size = ps.length := by simp
    rw [eN] at habs hs2 hl2
    rw [List.take_of_length_le (by simp)] at habs
    walk_at "WALKS"
    exact hQ _ _ _ _ hD2 (by rw [habs, addP, List.length_map]) hs2 hl2 ((Out.of F4 N4 nd4).sub (fun p hp => List.mem_cons_of_mem _ hp) (List.nodup_cons.mp nd4).2)

end
section
theorem reset_M1 : True := by
  w_top off
  trivial
abbrev sd1 (h0 : Int) (k0 : Nat) (D : Value) : Obj := dictOf [⟨h0, .str "_node2info" k0, D⟩] 1
abbrev sd2 (h0 : Int) (k0 : Nat) (D : Value) (h1 : Int) (k1 : Nat) (V : Value) : Obj := dictOf [⟨h0, .str "_node2info" k0, D⟩, ⟨h1, .str "_ready_nodes" k1, V⟩] 2
abbrev sd3 (h0 : Int) (k0 : Nat) (D : Value) (h1 : Int) (k1 : Nat) (V : Value) (h2 : Int) (k2 : Nat) (P : Value) : Obj := dictOf [⟨h0, .str "_node2info" k0, D⟩, ⟨h1, .str "_ready_nodes" k1, V⟩, ⟨h2, .str "_npassedout" k2, P⟩] 3
section
variable {w : World} {A : Around} {E : Value → Shared → Prop} {s : Shared} {g : Heap} {L x dx : Addr} {m : Str → Option Value} {news news' : List (Addr × Obj)} {D V P v : Value} {h0 h1 h2 : Int} {k0 k1 k2 : Nat} {Q : Unit → Shared → Prop}
theorem si0 (F : Fr g L s.heap m) (B : Bs w g) (N : News g L s.heap news) (I : InstAt s.heap x (sobj dx) 181 (some (dictOf [] 0)))
    (U : Upd dx (dictOf [] 0) (sd1 (PyData.keyHash w.params "_node2info") (s.toks + 1) v) news news')
    (nd : Nod news) (h : ∀ h', Fr g L h' m → News g L h' news' → Nod news' → Q () { s with heap := h', toks := s.toks + 2 }) :
    wpAny (model Challenge.pw_ij0208_01 w) A (setAttr (.ref x) "_node2info" v) Q E s :=
  set_dict F B.X N I rfl (by kernel_rfl) (by kernel_rfl) (by kernel_rfl) (by kernel_rfl) (by rfl) (by rfl) U (Nat.le_of_ble_eq_true (by rfl)) fun h' F' N' => h h' F' N' (nod_upd U nd)
theorem si1 (F : Fr g L s.heap m) (B : Bs w g) (N : News g L s.heap news) (I : InstAt s.heap x (sobj dx) 181 (some (sd1 h0 k0 D)))
    (U : Upd dx (sd1 h0 k0 D) (sd2 h0 k0 D (PyData.keyHash w.params "_ready_nodes") (s.toks + 1) v) news news')
    (nd : Nod news) (h : ∀ h', Fr g L h' m → News g L h' news' → Nod news' → Q () { s with heap := h', toks := s.toks + 2 }) :
    wpAny (model Challenge.pw_ij0208_01 w) A (setAttr (.ref x) "_ready_nodes" v) Q E s :=
  set_dict F B.X N I rfl (by kernel_rfl) (by kernel_rfl) (by kernel_rfl) (by kernel_rfl) (by rfl) (by rfl) U (Nat.le_of_ble_eq_true (by rfl)) fun h' F' N' => h h' F' N' (nod_upd U nd)
theorem si2 (F : Fr g L s.heap m) (B : Bs w g) (N : News g L s.heap news) (I : InstAt s.heap x (sobj dx) 181 (some (sd2 h0 k0 D h1 k1 V)))
    (U : Upd dx (sd2 h0 k0 D h1 k1 V) (sd3 h0 k0 D h1 k1 V (PyData.keyHash w.params "_npassedout") (s.toks + 1) v) news news')
    (nd : Nod news) (h : ∀ h', Fr g L h' m → News g L h' news' → Nod news' → Q () { s with heap := h', toks := s.toks + 2 }) :
    wpAny (model Challenge.pw_ij0208_01 w) A (setAttr (.ref x) "_npassedout" v) Q E s :=
  set_dict F B.X N I rfl (by kernel_rfl) (by kernel_rfl) (by kernel_rfl) (by kernel_rfl) (by rfl) (by rfl) U (Nat.le_of_ble_eq_true (by rfl)) fun h' F' N' => h h' F' N' (nod_upd U nd)
theorem si3 {p q : Int} {t t' : Nat} (F : Fr g L s.heap m) (B : Bs w g) (N : News g L s.heap news) (I : InstAt s.heap x (sobj dx) 181 (some (sd3 h0 k0 D h1 k1 V h2 k2 (.int p t))))
    (U : Upd dx (sd3 h0 k0 D h1 k1 V h2 k2 (.int p t)) (sdict ⟨h0, h1, h2, PyData.keyHash w.params "_nfinished", k0, k1, k2, s.toks + 1, t, t'⟩ D V p q) news news')
    (nd : Nod news) (h : ∀ h', Fr g L h' m → News g L h' news' → Nod news' → Q () { s with heap := h', toks := s.toks + 2 }) :
    wpAny (model Challenge.pw_ij0208_01 w) A (setAttr (.ref x) "_nfinished" (.int q t')) Q E s :=
  set_dict F B.X N I rfl (by kernel_rfl) (by kernel_rfl) (by kernel_rfl) (by kernel_rfl) (by rfl) (by rfl) U (Nat.le_of_ble_eq_true (by rfl)) fun h' F' N' => h h' F' N' (nod_upd U nd)
theorem newDictI {env : Env} {pos : Pos} {Q : Value → Shared → Prop} (F : Fr g L s.heap m) (B : Bs w g) (N : News g L s.heap news)
    (k : ∀ d h' o, Fr g L h' m → News g L h' ((d, o) :: news) → (∀ p ∈ news, p.1 < d) → (d == sysModules) = false → o.IsDictOf (intKind Challenge.pw_ij0208_01 w) [] → Q (.ref d) { s with heap := h' }) : wpAny (model Challenge.pw_ij0208_01 w) A (eval (.Dict [] [] pos) env) Q E s :=
  newDict_K F N B.nolimit fun d h' o F' N' lt lo _ _ hd _ => k d h' o F' N' lt lo hd
end
local macro_rules | `(tactic| walk_at "setAttr ref") => `(tactic| ((with_reducible show wpAny _ _ (setAttr _ (Str.ofString "_node2info") _) _ _ _); k_dflt (refine' si0 ?F ?B ?N ?I ?U ?nd ?_; (case F => assumption); (case B => assumption); (case N => assumption); (case I => exact InstAt.mk1 (by walk_at "HGET") (by walk_at "HGET")); (case nd => assumption); (case U => walk_at "UPD"); intro h' F' N' nd')))
local macro_rules | `(tactic| walk_at "setAttr ref") => `(tactic| ((with_reducible show wpAny _ _ (setAttr _ (Str.ofString "_ready_nodes") _) _ _ _); k_dflt (refine' si1 ?F ?B ?N ?I ?U ?nd ?_; (case F => assumption); (case B => assumption); (case N => assumption); (case I => exact InstAt.mk1 (by walk_at "HGET") (by walk_at "HGET")); (case nd => assumption); (case U => walk_at "UPD"); intro h' F' N' nd')))
local macro_rules | `(tactic| walk_at "setAttr ref") => `(tactic| ((with_reducible show wpAny _ _ (setAttr _ (Str.ofString "_npassedout") _) _ _ _); k_dflt (refine' si2 ?F ?B ?N ?I ?U ?nd ?_; (case F => assumption); (case B => assumption); (case N => assumption); (case I => exact InstAt.mk1 (by walk_at "HGET") (by walk_at "HGET")); (case nd => assumption); (case U => walk_at "UPD"); intro h' F' N' nd')))
local macro_rules | `(tactic| walk_at "setAttr ref") => `(tactic| ((with_reducible show wpAny _ _ (setAttr _ (Str.ofString "_nfinished") _) _ _ _); k_dflt (refine' si3 ?F ?B ?N ?I ?U ?nd ?_; (case F => assumption); (case B => assumption); (case N => assumption); (case I => exact InstAt.mk1 (by walk_at "HGET") (by walk_at "HGET")); (case nd => assumption); (case U => walk_at "UPD"); intro h' F' N' nd')))
local macro_rules | `(tactic| walk_at "eval Dict nil nil") => `(tactic| k_dflt ((rename Nod _ => nd9); refine newDictI (by assumption) (by assumption) (by assumption) ?_; intro D' h' o' F' N' lt' lo' hd'; have nd' := nodCons' N' nd9 lt'; clear nd9))
theorem sorterInit {w : World} {A : Around} {s : Shared} {x dx : Addr} {R : Result → Shared → Prop}
    (N : ∀ p ∈ [(x, sobj dx), (dx, dictOf [] 0)], s.heap.get? p.1 = some p.2)
    (B : Bs w (hideAll s.heap ([(x, sobj dx), (dx, dictOf [] 0)].map (·.1))))
    (nd : Nod [(x, sobj dx), (dx, dictOf [] 0)])
    (hroom : A.depth < 425) (hu : A.units < 50) (hh : A.handled = none)
    (hQ : ∀ d D oD h' t', (D == sysModules) = false → oD.IsDictOf (intKind Challenge.pw_ij0208_01 w) [] → Out (hideAll s.heap ([(x, sobj dx), (dx, dictOf [] 0)].map (·.1))) [(x, sobj dx), (dx, sdict d (.ref D) .none 0 0), (D, oD)] h' → R (.ok (.ret .none)) { s with heap := h', toks := t' }) :
    codeAny (model PySem.Challenge.pw_ij0208_01 w) A (.call (.ref 117) ⟨[.ref x], []⟩) R s := by
  refine enter (f := 117) _ rfl B N (by kernel_rfl) (Nat.lt_trans hroom (by decide)) (binds := [(Str.ofString "self", .ref x), (Str.ofString "graph", .none)]) (kp_binds (B.keeps fun b o e => of_hideAll _ e).X (fun S => by kernel_rfl)) (locs (by rfl)) ?_
  intro L h₁ F N hlt
  generalize (hideAll s.heap _) = g at B F N hQ
  walk_at "WALKS"
  rename Fr _ _ _ _ => F3
  rename News _ _ _ _ => N3
  rename Nod _ => nd3
  rename Obj.IsDictOf _ _ _ => hd3
  rename (_ == sysModules) = false => lo3
  exact hQ _ _ _ _ _ lo3 hd3 ((Out.of F3 N3 nd3).perm (List.perm_append_comm (l₁ := [_, _]) (l₂ := [_])))
theorem mkSorter {w : World} {A : Around} {E : Value → Shared → Prop} {s : Shared} {g : Heap} {L : Addr} {m : Str → Option Value} {news : List (Addr × Obj)} {Q : Value → Shared → Prop} (F : Fr g L s.heap m) (B : Bs w g) (N : News g L s.heap news) (nd : Nod news)
    (hroom : A.depth < 424) (hu : A.units < 49) (hh : A.handled = none)
    (h : ∀ x dx d D oD h' t', (D == sysModules) = false → oD.IsDictOf (intKind Challenge.pw_ij0208_01 w) (kvsOf []) → Fr g L h' m → News g L h' ((x, sobj dx) :: (dx, sdict d (.ref D) .none 0 0) :: (D, oD) :: famOf [] ++ news) → Nod ((x, sobj dx) :: (dx, sdict d (.ref D) .none 0 0) :: (D, oD) :: famOf [] ++ news) → Q (.ref x) { s with heap := h', toks := t' }) :
    wpAny (model PySem.Challenge.pw_ij0208_01 w) A (call (.ref 181) []) Q E s := by
  refine call_cls F B.X N (by kernel_rfl) (fI := 117) (by kernel_rfl) (by kernel_rfl) fun x dx h1 F1 N1 l1 l2 => ?_
  have nd1 : Nod ((x, instObj 181 dx) :: (dx, dictOf [] 0) :: news) := nodCons (nodCons nd l1) fun p hp => by
    rcases List.mem_cons.mp hp with rfl | hp
    · exact l2
    · exact Nat.lt_trans (l1 p hp) l2
  refine sorterInit (newsHave (W := [_, _]) N1) (bsHide (W := [_, _]) F1 B N1) (nodL (W := [_, _]) nd1) (Nat.lt_of_le_of_lt (Nat.le_of_eq rfl) (Nat.succ_lt_succ hroom)) (Nat.lt_of_le_of_lt (Nat.le_of_eq rfl) (Nat.succ_lt_succ hu)) hh fun d D oD h' t' lo hd O => ?_
  obtain ⟨F2, N2, nd2⟩ := back (W := [_, _]) F1 N1 nd1 O
  exact ⟨rfl, h _ _ _ _ _ _ _ lo hd F2 N2 nd2⟩

end
local macro_rules | `(tactic| walk_at "eval Dict nil nil") => `(tactic| k_dflt ((rename Nod _ => nd9); refine newDictI (by assumption) (by assumption) (by assumption) ?_; intro D' h' o' F' N' lt' lo' hd'; have nd' := nodCons' N' nd9 lt'; clear nd9))
section
theorem reset_B1 : True := by
  w_top off
  trivial
theorem isActive {w : World} {A : Around} {s : Shared} {x dx D R : Addr} {d : SD} {np nf : Int} {items : Array Value} {n : Nat} {Q : Value → Shared → Prop}
    (B : Bs w s.heap) (hx : s.heap.get? x = some (sobj dx)) (hdx : s.heap.get? dx = some (sdict d (.ref D) (.ref R) np nf)) (hR : s.heap.get? R = some (listOf items n))
    (hsz : (items.size : Int) < 2 ^ 63)
    (hroom : A.depth < 420) (hu : A.units < 50) (hh : A.handled = none)
    (hQ : ∀ v h' t', v = (decide (nf < np) || !items.isEmpty) → s.heap.StaysIn h' → Q (.bool v) { s with heap := h', toks := t' }) {E : Value → Shared → Prop} :
    wpAny (model PySem.Challenge.pw_ij0208_01 w) A (call (.ref 150) [.ref x]) Q E s := by
  refine wpAny_call (enter0 (f := 150) rfl B (by kernel_rfl) (Nat.lt_trans hroom (by decide)) (binds := [(Str.ofString "self", .ref x)]) (.of_eq rfl) (locs (by rfl)) ?_)
  intro L h₁ F N
  walk_at "WALKS"
  all_goals exact hQ _ _ _ (by simp [*]) F.keep

end
section
local macro_rules | `(tactic| walk_at "no goal 0") => `(tactic| fail)
theorem reset_B2 : True := by
  w_top off
  trivial
theorem getReady {w : World} {A : Around} {s : Shared} {x dx D R : Addr} {d : SD} {np nf : Int} {items : List (Int × Nat)} {n : Nat} {oD : Obj} {nodes : List Nd} {Q : Value → Shared → Prop}
    (hD : oD.IsDictOf (intKind Challenge.pw_ij0208_01 w) (kvsOf nodes))
    (N : ∀ p ∈ (x, sobj dx) :: (dx, sdict d (.ref D) (.ref R) np nf) :: (D, oD) :: (R, listOf (ivals items).toArray n) :: famOf nodes, s.heap.get? p.1 = some p.2)
    (B : Bs w (hideAll s.heap (((x, sobj dx) :: (dx, sdict d (.ref D) (.ref R) np nf) :: (D, oD) :: (R, listOf (ivals items).toArray n) :: famOf nodes).map (·.1))))
    (nd : Nod ((x, sobj dx) :: (dx, sdict d (.ref D) (.ref R) np nf) :: (D, oD) :: (R, listOf (ivals items).toArray n) :: famOf nodes))
    (hin : ∀ p ∈ items, ∃ (j : Nat) (d : Nd), nodes[j]? = some d ∧ d.key = p.1)
    (hsz : items.length < 1000)
    (hroom : A.depth < 420) (hu : A.units < 50) (hh : A.handled = none) {E : Value → Shared → Prop}
    (hQ : ∀ T d' n' nodes' h' t', NpAre (fun d => if d.key ∈ items.map (·.1) then -1 else d.np) nodes nodes' →
      Out (hideAll s.heap (((x, sobj dx) :: (dx, sdict d (.ref D) (.ref R) np nf) :: (D, oD) :: (R, listOf (ivals items).toArray n) :: famOf nodes).map (·.1)))
        ((T, tupObj (ivals items)) :: (x, sobj dx) :: (dx, sdict d' (.ref D) (.ref R) (np + items.length) nf) :: (D, oD) :: (R, listOf #[] n') :: famOf nodes') h' →
      Q (.ref T) { s with heap := h', toks := t' }) :
    wpAny (model PySem.Challenge.pw_ij0208_01 w) A (call (.ref 143) [.ref x]) Q E s := by
  refine wpAny_call (enter (f := 143) _ rfl B N (by kernel_rfl) (Nat.lt_trans hroom (by decide)) (binds := [(Str.ofString "self", .ref x)]) (.of_eq rfl) (locs (by rfl)) ?_)
  intro L h₁ F N hlt
  generalize (hideAll s.heap _) = g at B F N hQ
  have hsz' : (ivals items).length < 1000 := by simpa using hsz
  have hk := dict_keys hD
  walk_at "WALKS"
  rename Nod _ => nd1
  change wpAny _ _ _ _ _ _
  rename Fr _ _ _ _ => F1
  rename News _ _ _ _ => N1
  obtain ⟨m₀, hm0, F1⟩ := frNamed F1
  refine iterT (items := (ivals items).toArray) (nt := 0) (fun i m nw => ∃ nodes', nw = (_, tupObj (ivals items)) :: (x, sobj dx) :: (dx, sdict d (.ref D) (.ref R) np nf) :: (D, oD) :: (R, listOf (ivals items).toArray n) :: famOf nodes' ∧
    NpAre (fun d => if d.key ∈ (items.take i).map (·.1) then -1 else d.np) nodes nodes' ∧ ∃ u, m = fun y => if y = Str.ofString "node" then u y else m₀ y) hh F1 N1 nd1 (.inl ?_) ⟨nodes, rfl, (NpAre.refl _).congr (by simp), m₀, by simp⟩ ?_ ?_
  · rintro i m nw ⟨nodes', rfl, _⟩; exact .head _
  · rintro I i v m nw h tk o hi hIlt ⟨nodes', rfl, hnp, u, rfl⟩ nd2 F2 N2
    subst hm0
    obtain ⟨p, hp, rfl⟩ : ∃ p, items[i]? = some p ∧ v = .int p.1 p.2 := by
      simp only [List.getElem?_toArray, List.getElem?_map, Option.map_eq_some_iff] at hi
      obtain ⟨p, hp, rfl⟩ := hi
      exact ⟨p, hp, rfl⟩
    obtain ⟨j, dj, hj, hkey⟩ := hin p (List.mem_of_getElem? hp)
    obtain ⟨dj', hj', ea, ek, -, enp, -⟩ := hnp.at hj
    have hval := kvs_at hk hj
    rw [hkey, ← ea] at hval
    replace F2 : Fr g L h _ := F2
    replace N2 : News g L h _ := N2
    refine cutQ fun Q6 hQ6 => ?_
    walk_at "WALKS"
    rename Fr _ _ _ _ => F3
    rename News _ _ _ _ => N3
    rename Nod _ => nd3
    refine hQ6 _ _ ?_
    refine ⟨_, _, _, _, rfl, F3, N3, nd3, _, rfl, (hnp.set hj hj' (-1) 259 hk).congr fun x _ => ?_, fun _ => some (.int p.1 p.2), by funext y; by_cases hy : y = Str.ofString "node" <;> simp [hy]⟩
    have hi' : i < items.length := (List.getElem?_eq_some_iff.mp hp).1
    rw [List.take_add_one, hp]
    simp only [Option.toList_some, List.map_append, List.map_cons, List.map_nil, List.mem_append, List.mem_singleton, hkey]
    by_cases e1 : x.key = p.1 <;> simp [e1]
  · rintro m nw h tk ⟨nodes', rfl, hnp, u, rfl⟩ nd2 F2 N2
    subst hm0
    replace F2 : Fr g L h _ := F2
    replace N2 : News g L h _ := N2
    walk_at "WALKS"
    rename Fr _ _ _ _ => F3
    rename News _ _ _ _ => N3
    rename Nod _ => nd3
    rw [List.length_map] at N3 nd3
    exact hQ _ _ _ _ _ _ (hnp.congr fun x _ => by rw [List.take_of_length_le (by simp)]) (Out.of F3 N3 nd3)

end
section
local macro_rules | `(tactic| walk_at "no goal 0") => `(tactic| fail)
local macro_rules | `(tactic| walk_at "no goal 1") => `(tactic| fail)
theorem reset_B3 : True := by
  w_top off
  trivial
inductive DoneJ (sc : Int → List Int) (f0 : Int → Int) (T x dx D R : Addr) (np nf : Int) (oD : Obj) (gs rd : List (Int × Nat)) (nodes : List Nd) (m₀ : Str → Option Value) (i : Nat) (m : Str → Option Value) (nw : List (Addr × Obj)) : Prop
  | mk (dd : _) (n' : _) (nodes' : _) (rd' : _) (a0 : nw = (T, tupObj (ivals gs)) :: (x, sobj dx) :: (dx, sdict dd (.ref D) (.ref R) np (nf + i)) :: (D, oD) :: (R, listOf (ivals rd').toArray n') :: famOf nodes') (a1 : NpAre (fun d => (doneAll sc ((gs.take i).map (·.1)) (f0, rd.map (·.1))).1 d.key) nodes nodes') (a2 : rd'.map (·.1) = (doneAll sc ((gs.take i).map (·.1)) (f0, rd.map (·.1))).2) (a3 : rd'.length ≤ 100 + 100 * i) (a4 : ∃ u : Str → Option Value, m = fun y => if (["node", "nodeinfo", "stat", "successor", "successor_info"] : List Str).contains y then u y else m₀ y) : DoneJ sc f0 T x dx D R np nf oD gs rd nodes m₀ i m nw
inductive DoneK (sc : Int → List Int) (f0 : Int → Int) (T x dx D R I : Addr) (o : Obj) (np nf : Int) (oD : Obj) (gs rd : List (Int × Nat)) (nodes : List Nd) (dj : Nd) (p : Int × Nat) (i : Nat) (dd : SD) (m₁ : Str → Option Value) (i2 : Nat) (m : Str → Option Value) (nw : List (Addr × Obj)) : Prop
  | mk (n2 : _) (nodes2 : _) (rd2 : _) (a0 : nw = (I, o) :: (T, tupObj (ivals gs)) :: (x, sobj dx) :: (dx, sdict dd (.ref D) (.ref R) np (nf + i)) :: (D, oD) :: (R, listOf (ivals rd2).toArray n2) :: famOf nodes2) (a1 : NpAre (fun d => (((dj.succ.map (·.1)).take i2).foldl relax (upf (doneAll sc ((gs.take i).map (·.1)) (f0, rd.map (·.1))).1 p.1 (-2), (doneAll sc ((gs.take i).map (·.1)) (f0, rd.map (·.1))).2)).1 d.key) nodes nodes2) (a2 : rd2.map (·.1) = (((dj.succ.map (·.1)).take i2).foldl relax (upf (doneAll sc ((gs.take i).map (·.1)) (f0, rd.map (·.1))).1 p.1 (-2), (doneAll sc ((gs.take i).map (·.1)) (f0, rd.map (·.1))).2)).2) (a3 : rd2.length ≤ 100 + 100 * i + i2) (a4 : ∃ u : Str → Option Value, m = fun y => if (["successor", "successor_info"] : List Str).contains y then u y else m₁ y) : DoneK sc f0 T x dx D R I o np nf oD gs rd nodes dj p i dd m₁ i2 m nw
theorem doneSpec {w : World} {A : Around} {s : Shared} {x dx D R : Addr} {d : SD} {np nf : Int} {rd gs : List (Int × Nat)} {n : Nat} {oD : Obj} {nodes : List Nd} {Q : Value → Shared → Prop} {f0 : Int → Int} {sc : Int → List Int}
    (hD : oD.IsDictOf (intKind Challenge.pw_ij0208_01 w) (kvsOf nodes)) (hlo : (D == sysModules) = false)
    (N : ∀ p ∈ (x, sobj dx) :: (dx, sdict d (.ref D) (.ref R) np nf) :: (D, oD) :: (R, listOf (ivals rd).toArray n) :: famOf nodes, s.heap.get? p.1 = some p.2)
    (B : Bs w (hideAll s.heap (((x, sobj dx) :: (dx, sdict d (.ref D) (.ref R) np nf) :: (D, oD) :: (R, listOf (ivals rd).toArray n) :: famOf nodes).map (·.1))))
    (nd : Nod ((x, sobj dx) :: (dx, sdict d (.ref D) (.ref R) np nf) :: (D, oD) :: (R, listOf (ivals rd).toArray n) :: famOf nodes))
    (hf : ∀ d ∈ nodes, d.np = f0 d.key) (hsc : ∀ d ∈ nodes, d.succ.map (·.1) = sc d.key)
    (hin : ∀ p ∈ gs, ∃ (j : Nat) (d : Nd), nodes[j]? = some d ∧ d.key = p.1)
    (hins : ∀ d ∈ nodes, ∀ q ∈ d.succ, ∃ (j : Nat) (d' : Nd), nodes[j]? = some d' ∧ d'.key = q.1)
    (hout : ∀ i p, gs[i]? = some p → (doneAll sc ((gs.take i).map (·.1)) (f0, rd.map (·.1))).1 p.1 = -1)
    (hsz : rd.length ≤ 100) (hsz1 : gs.length ≤ 5) (hsz2 : ∀ d ∈ nodes, d.succ.length ≤ 100)
    (hroom : A.depth < 420) (hu : A.units < 50) (hh : A.handled = none) {E : Value → Shared → Prop}
    (hQ : ∀ d' n' nodes' rd' h' t', NpAre (fun d => (doneAll sc (gs.map (·.1)) (f0, rd.map (·.1))).1 d.key) nodes nodes' → rd'.map (·.1) = (doneAll sc (gs.map (·.1)) (f0, rd.map (·.1))).2 →
      Out (hideAll s.heap (((x, sobj dx) :: (dx, sdict d (.ref D) (.ref R) np nf) :: (D, oD) :: (R, listOf (ivals rd).toArray n) :: famOf nodes).map (·.1)))
        ((x, sobj dx) :: (dx, sdict d' (.ref D) (.ref R) np (nf + gs.length)) :: (D, oD) :: (R, listOf (ivals rd').toArray n') :: famOf nodes') h' →
      Q .none { s with heap := h', toks := t' }) :
    codeAny (model PySem.Challenge.pw_ij0208_01 w) A (.call (.ref 164) ⟨.ref x :: ivals gs, []⟩) (fun r s' => match r with | .ok (.ret v) => Q v s' | .ok _ => False | .error e => E e s') s := by
  refine id (enterS (f := 164) (vs := ivals gs) (binds := fun D => [(Str.ofString "self", .ref x), (Str.ofString "nodes", .ref D)]) _ rfl B N nd (by kernel_rfl) (Nat.lt_trans hroom (by decide))
    (fun M A E Q h => bindStar1 rfl rfl (by rw [sizeLine_eq, List.length_map]; omega) h) (fun D => locs (by rfl)) ?_)
  intro T L h₁ F N nd0
  generalize (hideAll s.heap _) = g at B F N hQ
  have hk := dict_keys hD
  walk_at "WALKS"
  rename Nod _ => nd1
  change wpAny _ _ _ _ _ _
  rename Fr _ _ _ _ => F1
  rename News _ _ _ _ => N1
  obtain ⟨m₀, hm0, F1⟩ := frNamed F1
  refine iterT (items := (ivals gs).toArray) (nt := 0) (DoneJ sc f0 T x dx D R np nf oD gs rd nodes m₀) hh F1 N1 nd1 (.inl ?_) ⟨d, n, nodes, rd, by simp, (NpAre.refl _).congr hf, rfl, by omega, m₀, by simp⟩ ?_ ?_
  · rintro i m nw ⟨_, _, _, _, rfl, _⟩; exact .head _
  · rintro I i v m nw h tk o hi hIlt ⟨dd, n', nodes', rd', rfl, hnp, hrd, hlen, u, rfl⟩ nd2 F2 N2
    subst hm0
    obtain ⟨p, hp, rfl⟩ : ∃ p, gs[i]? = some p ∧ v = .int p.1 p.2 := by
      simp only [List.getElem?_toArray, List.getElem?_map, Option.map_eq_some_iff] at hi
      obtain ⟨p, hp, rfl⟩ := hi
      exact ⟨p, hp, rfl⟩
    obtain ⟨j, dj, hj, hkey⟩ := hin p (List.mem_of_getElem? hp)
    obtain ⟨dj', hj', ea, ek, esu, enp, esa, esn⟩ := hnp.at hj
    rw [hkey, hout i p hp] at enp
    have hval := kvs_at hk hj
    rw [hkey, ← ea] at hval
    replace F2 : Fr g L h _ := F2
    replace N2 : News g L h _ := N2
    refine cutQ fun Q6 hQ6 => ?_
    walk_at "WALKS"
    all_goals first | contradiction | skip
    rename Nod _ => nd3
    change wpAny _ _ _ _ _ _
    rename Fr _ _ _ _ => F3
    rename News _ _ _ _ => N3
    obtain ⟨m₁, hm1, F3⟩ := frNamed F3
    have hnp1 := hnp.set hj hj' (-2) 262 hk
    refine iterL (items := (ivals dj'.succ).toArray) (nt := dj'.sn) (DoneK sc f0 T x dx D R I o np nf oD gs rd nodes dj p i dd m₁) hh F3 N3 nd3 (.inl ?_) ?_ ?_ ?_
    · rintro i2 m nw ⟨n2, nodes2, rd2, rfl, hnp2, _⟩
      obtain ⟨t2, hj2⟩ := hnp2.2 j dj hj
      rw [esu, esa, esn]
      simp only [List.mem_cons]
      exact .inr (.inr (.inr (.inr (.inr (.inr (mem_fam_s (d := { dj with np := _, pt := t2 }) hj2))))))
    · refine ⟨n', _, rd', rfl, hnp1.congr (fun x _ => ?_), by simpa using hrd, by omega, m₁, by funext y; simp⟩
      simp only [List.take_zero, List.foldl_nil, upf, hkey]
    · rintro I2 i2 v m nw h2 tk2 o2 hi2 hI2lt ⟨n2, nodes2, rd2, rfl, hnp2, hrd2, hlen2, u2, rfl⟩ nd4 F4 N4
      subst hm1
      obtain ⟨q, hq, rfl⟩ : ∃ q, dj.succ[i2]? = some q ∧ v = .int q.1 q.2 := by
        rw [esu] at hi2
        simp only [List.getElem?_toArray, List.getElem?_map, Option.map_eq_some_iff] at hi2
        obtain ⟨q, hq, rfl⟩ := hi2
        exact ⟨q, hq, rfl⟩
      obtain ⟨j2, d2, hj2, hkey2⟩ := hins dj (List.mem_of_getElem? hj) q (List.mem_of_getElem? hq)
      obtain ⟨d2', hj2', ea2, ek2, -, enp2, -⟩ := hnp2.at hj2
      have hval2 := kvs_at hk hj2
      rw [hkey2, ← ea2] at hval2
      rw [hkey2] at enp2
      replace F4 : Fr g L h2 _ := F4
      replace N4 : News g L h2 _ := N4
      have hlenr : (ivals rd2).toArray.size < 1000 := by
        have := (List.getElem?_eq_some_iff.mp hq).1
        have := hsz2 dj (List.mem_of_getElem? hj)
        have := (List.getElem?_eq_some_iff.mp hp).1
        simp; omega
      refine cutQ fun Q7 hQ7 => ?_
      walk_at "WALKS"
      all_goals rename Nod _ => nd5
      all_goals rename Fr _ _ _ _ => F5
      all_goals rename News _ _ _ _ => N5
      · rename _ - _ = _ => hz0
        refine hQ7 _ _ ?_
        refine ⟨_, _, _, _, rfl, F5, N5, nd5, _, _, rd2 ++ [q], by simp [ivals]; exact ⟨rfl, rfl⟩, (hnp2.set hj2 hj2' _ _ hk).congr fun x _ => ?_, ?_, by simp; omega, ?_⟩
        · rw [take_foldl _ _ (x := q.1) (by rw [List.getElem?_map, hq]; rfl)]; simp only [relax, upf, hkey2, enp2]
        · rw [take_foldl _ _ (x := q.1) (by rw [List.getElem?_map, hq]; rfl)]; rw [enp2] at hz0; simp only [relax, hz0, List.map_append, hrd2, if_true]; rfl
        · walk_at "FRAME"
      · rename _ ≠ _ => hz0
        refine hQ7 _ _ ?_
        refine ⟨_, _, _, _, rfl, F5, N5, nd5, _, _, rd2, rfl, (hnp2.set hj2 hj2' _ _ hk).congr fun x _ => ?_, ?_, by omega, ?_⟩
        · rw [take_foldl _ _ (x := q.1) (by rw [List.getElem?_map, hq]; rfl)]; simp only [relax, upf, hkey2, enp2]
        · rw [take_foldl _ _ (x := q.1) (by rw [List.getElem?_map, hq]; rfl)]; rw [enp2] at hz0; simp only [relax, if_neg hz0, hrd2]
        · walk_at "FRAME"
    · rintro m nw h3 tk3 ⟨n2, nodes2, rd2, rfl, hnp2, hrd2, hlen2, u2, rfl⟩ nd4 F4 N4
      subst hm1
      replace F4 : Fr g L h3 _ := F4
      replace N4 : News g L h3 _ := N4
      walk_at "WALKS"
      rename Nod _ => nd5
      rename Fr _ _ _ _ => F5
      rename News _ _ _ _ => N5
      have hst : doneAll sc ((gs.take (i + 1)).map (·.1)) (f0, rd.map (·.1)) = ((dj.succ.map (·.1)).take (ivals dj'.succ).toArray.size).foldl relax (upf (doneAll sc ((gs.take i).map (·.1)) (f0, rd.map (·.1))).1 p.1 (-2), (doneAll sc ((gs.take i).map (·.1)) (f0, rd.map (·.1))).2) := by
        have e1 : (gs.take (i + 1)).map (·.1) = (gs.take i).map (·.1) ++ [p.1] := by rw [List.take_add_one, hp]; simp
        have e2 : (dj.succ.map (·.1)).take (ivals dj'.succ).toArray.size = sc p.1 := by
          rw [List.take_of_length_le (by simp [esu]), hsc dj (List.mem_of_getElem? hj), hkey]
        rw [e1, e2, doneAll, List.foldl_append]
        rfl
      have hlast : (ivals dj'.succ).toArray.size ≤ 100 := by simpa [esu] using hsz2 dj (List.mem_of_getElem? hj)
      rw [show nf + (i : Int) + 1 = nf + ((i + 1 : Nat) : Int) by omega] at N5 nd5
      refine hQ6 _ _ ?_
      refine ⟨_, _, _, _, rfl, F5, N5, nd5, _, _, _, _, rfl, hnp2.congr fun x _ => by rw [hst], by rw [hst, hrd2], by omega, ?_⟩
      walk_at "FRAME"
  · rintro m nw h3 tk3 ⟨dd2, n2, nodes2, rd2, rfl, hnp2, hrd2, hlen2, u2, rfl⟩ nd4 F4 N4
    subst hm0
    replace F4 : Fr g L h3 _ := F4
    replace N4 : News g L h3 _ := N4
    walk_at "WALKS"
    rw [List.take_of_length_le (by simp)] at hrd2 
    have eN : (ivals gs).toArray.size = gs.length := by simp
    rw [eN] at N4 nd4
    exact hQ _ _ _ _ _ _ (hnp2.congr fun x _ => by rw [List.take_of_length_le (by simp)]) hrd2 ((Out.of F4 N4 nd4).sub (fun p hp => List.mem_cons_of_mem _ hp) (List.nodup_cons.mp nd4).2)

end
section
local macro_rules | `(tactic| walk_at "no goal 0") => `(tactic| fail)
theorem reset_FF1 : True := by
  w_top off
  trivial
abbrev ffObj (dx u it : Addr) : Obj := ⟨.ref 54, some dx, .plain, #[some (.ref u), some (.ref it)]⟩
abbrev ff0 (dx : Addr) : Obj := ⟨.ref 54, some dx, .plain, #[]⟩
section
variable {w : World} {A : Around} {E : Value → Shared → Prop} {s : Shared} {g : Heap} {L a x dx u it : Addr} {m : Str → Option Value} {od : Obj} {news news' : List (Addr × Obj)}
theorem gaFunc {expr : Bool} {Q : Value → Shared → Prop} (F : Fr g L s.heap m) (B : Bs w g) (I : InstAt s.heap x (ffObj dx u it) 54 (some od)) (h : Q (.ref u) { s with toks := s.toks + 1 }) :
    wpAny (model Challenge.pw_ij0208_01 w) A (getAttr (.ref x) "_func" expr) Q E s :=
  get_slot (p := 55) (i := 0) F B.X I (by kernel_rfl) (by kernel_rfl) (by kernel_rfl) (by kernel_rfl) (by kernel_rfl) (by kernel_rfl) rfl rfl h
theorem gaIt {expr : Bool} {Q : Value → Shared → Prop} (F : Fr g L s.heap m) (B : Bs w g) (I : InstAt s.heap x (ffObj dx u it) 54 (some od)) (h : Q (.ref it) { s with toks := s.toks + 1 }) :
    wpAny (model Challenge.pw_ij0208_01 w) A (getAttr (.ref x) "_it" expr) Q E s :=
  get_slot (p := 56) (i := 1) F B.X I (by kernel_rfl) (by kernel_rfl) (by kernel_rfl) (by kernel_rfl) (by kernel_rfl) (by kernel_rfl) rfl rfl h
theorem saIt {Q : Unit → Shared → Prop} (F : Fr g L s.heap m) (B : Bs w g) (N : News g L s.heap news) (I : InstAt s.heap x (ff0 dx) 54 (some od))
    (U : Upd x (ff0 dx) ⟨.ref 54, some dx, .plain, #[none, some (.ref it)]⟩ news news') (nd : Nod news)
    (h : ∀ h', Fr g L h' m → News g L h' news' → Nod news' → Q () { s with heap := h', toks := s.toks + 1 }) :
    wpAny (model Challenge.pw_ij0208_01 w) A (setAttr (.ref x) "_it" (.ref it)) Q E s :=
  set_slot (p := 56) (i := 1) F B.X N I (by kernel_rfl) (by kernel_rfl) (by kernel_rfl) (by kernel_rfl) (by kernel_rfl) (by decide) rfl rfl U fun h' F' N' => h h' F' N' (nod_upd U nd)
theorem saFunc {Q : Unit → Shared → Prop} (F : Fr g L s.heap m) (B : Bs w g) (N : News g L s.heap news) (I : InstAt s.heap x ⟨.ref 54, some dx, .plain, #[none, some (.ref it)]⟩ 54 (some od))
    (U : Upd x ⟨.ref 54, some dx, .plain, #[none, some (.ref it)]⟩ (ffObj dx u it) news news') (nd : Nod news)
    (h : ∀ h', Fr g L h' m → News g L h' news' → Nod news' → Q () { s with heap := h', toks := s.toks + 1 }) :
    wpAny (model Challenge.pw_ij0208_01 w) A (setAttr (.ref x) "_func" (.ref u)) Q E s :=
  set_slot (p := 55) (i := 0) F B.X N I (by kernel_rfl) (by kernel_rfl) (by kernel_rfl) (by kernel_rfl) (by kernel_rfl) (by decide) rfl rfl U fun h' F' N' => h h' F' N' (nod_upd U nd)
end
local macro_rules | `(tactic| walk_at "setAttr ref") => `(tactic| ((with_reducible show wpAny _ _ (setAttr _ (Str.ofString "_it") _) _ _ _); k_dflt (refine' saIt ?F ?B ?N ?I ?U ?nd ?_; (case F => assumption); (case B => assumption); (case N => assumption); (case I => exact InstAt.mk1 (by walk_at "HGET") (by walk_at "HGET")); (case nd => assumption); (case U => walk_at "UPD"); intro h' F' N' nd')))
local macro_rules | `(tactic| walk_at "setAttr ref") => `(tactic| ((with_reducible show wpAny _ _ (setAttr _ (Str.ofString "_func") _) _ _ _); k_dflt (refine' saFunc ?F ?B ?N ?I ?U ?nd ?_; (case F => assumption); (case B => assumption); (case N => assumption); (case I => exact InstAt.mk1 (by walk_at "HGET") (by walk_at "HGET")); (case nd => assumption); (case U => walk_at "UPD"); intro h' F' N' nd')))
theorem ffInit {w : World} {A : Around} {s : Shared} {x dx u l : Addr} {vs : List Value} {nv : Nat} {R : Result → Shared → Prop}
    (hl : (hideAll s.heap ([(x, ff0 dx), (dx, dictOf [] 0)].map (·.1))).get? l = some (listOf vs.toArray nv))
    (N : ∀ p ∈ [(x, ff0 dx), (dx, dictOf [] 0)], s.heap.get? p.1 = some p.2)
    (B : Bs w (hideAll s.heap ([(x, ff0 dx), (dx, dictOf [] 0)].map (·.1))))
    (nd : Nod [(x, ff0 dx), (dx, dictOf [] 0)])
    (hroom : A.depth < 425) (hu : A.units < 50) (hh : A.handled = none)
    (hQ : ∀ it h' t', Out (hideAll s.heap ([(x, ff0 dx), (dx, dictOf [] 0)].map (·.1))) [(it, liObj l 0), (x, ffObj dx u it), (dx, dictOf [] 0)] h' → R (.ok (.ret .none)) { s with heap := h', toks := t' }) :
    codeAny (model PySem.Challenge.pw_ij0208_01 w) A (.call (.ref 36) ⟨[.ref x, .ref u, .ref l], []⟩) R s := by
  refine enter (f := 36) _ rfl B N (by kernel_rfl) (Nat.lt_trans hroom (by decide)) (binds := [(Str.ofString "self", .ref x), (Str.ofString "function", .ref u), (Str.ofString "iterable", .ref l)]) (.of_eq rfl) (locs (by rfl)) ?_
  intro L h₁ F N hlt
  generalize (hideAll s.heap _) = g at B F N hQ hl
  walk_at "WALKS"
  rename Fr _ _ _ _ => F3
  rename News _ _ _ _ => N3
  rename Nod _ => nd3
  exact hQ _ _ _ (Out.of F3 N3 nd3)
theorem mkFF {w : World} {A : Around} {E : Value → Shared → Prop} {s : Shared} {g : Heap} {L u l : Addr} {m : Str → Option Value} {news : List (Addr × Obj)} {vs : List Value} {nv : Nat} {Q : Value → Shared → Prop} (F : Fr g L s.heap m) (B : Bs w g) (N : News g L s.heap news) (nd : Nod news)
    (hl : g.get? l = some (listOf vs.toArray nv))
    (hroom : A.depth < 424) (hu : A.units < 49) (hh : A.handled = none)
    (h : ∀ x dx it h' t', Fr g L h' m → News g L h' ((it, liObj l 0) :: (x, ffObj dx u it) :: (dx, dictOf [] 0) :: news) → Nod ((it, liObj l 0) :: (x, ffObj dx u it) :: (dx, dictOf [] 0) :: news) → Q (.ref x) { s with heap := h', toks := t' }) :
    wpAny (model PySem.Challenge.pw_ij0208_01 w) A (call (.ref 54) [.ref u, .ref l]) Q E s := by
  refine call_cls F B.X N (by kernel_rfl) (fI := 36) (by kernel_rfl) (by kernel_rfl) fun x dx h1 F1 N1 l1 l2 => ?_
  have nd1 : Nod ((x, instObj 54 dx) :: (dx, dictOf [] 0) :: news) := nodCons (nodCons nd l1) fun p hp => by
    rcases List.mem_cons.mp hp with rfl | hp
    · exact l2
    · exact Nat.lt_trans (l1 p hp) l2
  have hl1 : (hideAll h1 ([(x, ff0 dx), (dx, dictOf [] 0)].map (·.1))).get? l = some (listOf vs.toArray nv) := hideAll_get _ (F1.keep _ _ hl) fun hm => by
    obtain ⟨p, hp, e⟩ := List.mem_map.mp hm
    have : g.get? p.1 = none := (N1 p (List.mem_append_left (as := [(x, ff0 dx), (dx, dictOf [] 0)]) news hp)).2.2
    rw [e, hl] at this; cases this
  refine ffInit hl1 (newsHave (W := [_, _]) N1) (bsHide (W := [_, _]) F1 B N1) (nodL (W := [_, _]) nd1) (Nat.lt_of_le_of_lt (Nat.le_of_eq rfl) (Nat.succ_lt_succ hroom)) (Nat.lt_of_le_of_lt (Nat.le_of_eq rfl) (Nat.succ_lt_succ hu)) hh fun it h' t' O => ?_
  obtain ⟨F2, N2, nd2⟩ := back (W := [_, _]) F1 N1 nd1 O
  exact ⟨rfl, h _ _ _ _ _ F2 N2 nd2⟩
theorem ffIter {w : World} {A : Around} {s : Shared} {x : Addr} {Q E : Value → Shared → Prop} (B : Bs w s.heap)
    (hroom : A.depth < 425) (hu : A.units < 50) (hh : A.handled = none)
    (hQ : ∀ h' t', s.heap.StaysIn h' → Q (.ref x) { s with heap := h', toks := t' }) :
    wpAny (model PySem.Challenge.pw_ij0208_01 w) A (call (.ref 43) [.ref x]) Q E s := by
  refine wpAny_call (enter0 (f := 43) rfl B (by kernel_rfl) (Nat.lt_trans hroom (by decide)) (binds := [(Str.ofString "self", .ref x)]) (.of_eq rfl) (locs (by rfl)) ?_)
  intro L h₁ F N
  walk_at "WALKS"
  exact hQ _ _ F.keep

end
local macro_rules | `(tactic| walk_at "getAttr ref") => `(tactic| ((with_reducible show wpAny _ _ (getAttr _ (Str.ofString "_func") _) _ _ _); k_dflt (refine gaFunc (by assumption) (by assumption) (InstAt.mk1 (by walk_at "HGET") (by walk_at "HGET")) ?_; try dsimp only)))
local macro_rules | `(tactic| walk_at "getAttr ref") => `(tactic| ((with_reducible show wpAny _ _ (getAttr _ (Str.ofString "_it") _) _ _ _); k_dflt (refine gaIt (by assumption) (by assumption) (InstAt.mk1 (by walk_at "HGET") (by walk_at "HGET")) ?_; try dsimp only)))
section
local macro_rules | `(tactic| walk_at "no goal 0") => `(tactic| fail)
local macro_rules | `(tactic| walk_at "no goal 1") => `(tactic| fail)
theorem reset_FF2 : True := by
  w_top off
  trivial
theorem ffNext {w : World} {A : Around} {s : Shared} {x dx u_1 l sk it : Addr} {vs : List Value} {nv i ns : Nat} {ws : Array Value} {hit : Value → Bool} {outer : List Env} {FS : List (Addr × Obj)} {Q E : Value → Shared → Prop}
    (hl : (hideAll s.heap (((it, liObj l i) :: (x, ffObj dx u_1 it) :: (dx, dictOf [] 0) :: FS).map (·.1))).get? l = some (listOf vs.toArray nv))
    (hu0 : (hideAll s.heap (((it, liObj l i) :: (x, ffObj dx u_1 it) :: (dx, dictOf [] 0) :: FS).map (·.1))).get? u_1 = some (wrapObj "list.__contains__" sk))
    (hsk : (hideAll s.heap (((it, liObj l i) :: (x, ffObj dx u_1 it) :: (dx, dictOf [] 0) :: FS).map (·.1))).get? sk = some (listOf ws ns))
    (hhit : ∀ v ∈ vs, ∃ e : Value → Bool, (∀ y, y ∈ ws → MeetsSeq.EqGives y v (e y)) ∧ ws.any e = hit v)
    (N : ∀ p ∈ (it, liObj l i) :: (x, ffObj dx u_1 it) :: (dx, dictOf [] 0) :: FS, s.heap.get? p.1 = some p.2)
    (B : Bs w (hideAll s.heap (((it, liObj l i) :: (x, ffObj dx u_1 it) :: (dx, dictOf [] 0) :: FS).map (·.1))))
    (nd : Nod ((it, liObj l i) :: (x, ffObj dx u_1 it) :: (dx, dictOf [] 0) :: FS))
    (hA : A.frames = some outer) (hF : FrOf outer FS)
    (hroom : A.depth < 425) (hu : A.units < 50) (hh : A.handled = none)
    (hQ : ∀ j v h' t', i ≤ j → (∀ k v, i ≤ k → k < j → vs[k]? = some v → hit v = true) → vs[j]? = some v → hit v = false →
      Out (hideAll s.heap (((it, liObj l i) :: (x, ffObj dx u_1 it) :: (dx, dictOf [] 0) :: FS).map (·.1))) ((it, liObj l (j + 1)) :: (x, ffObj dx u_1 it) :: (dx, dictOf [] 0) :: FS) h' → Q v { s with heap := h', toks := t' })
    (hE : ∀ e j FS' h' t', (∀ k v, i ≤ k → vs[k]? = some v → hit v = true) → SlotEq FS FS' → (∃ oe, h'.get? e = some oe ∧ oe.cls = .type "StopIteration") →
      Out (hideAll s.heap (((it, liObj l i) :: (x, ffObj dx u_1 it) :: (dx, dictOf [] 0) :: FS).map (·.1))) ((it, liDone j) :: (x, ffObj dx u_1 it) :: (dx, dictOf [] 0) :: FS') h' → E (.ref e) { s with heap := h', toks := t' }) :
    wpAny (model PySem.Challenge.pw_ij0208_01 w) A (call (.ref 50) [.ref x]) Q E s := by
  refine wpAny_call (enter (f := 50) _ rfl B N (by kernel_rfl) (Nat.lt_trans hroom (by decide)) (binds := [(Str.ofString "self", .ref x)]) (.of_eq rfl) (locs (by rfl)) ?_)
  intro L h₁ F N hlt
  generalize (hideAll s.heap _) = g at B F N hQ hE hl hu0 hsk
  walk_at "WALKS"
  rename Fr _ _ _ _ => F1
  rename News _ _ _ _ => N1
  obtain ⟨m₀, hm0, F1⟩ := frNamed F1
  refine Halt.go ?_
  change wpAny _ _ _ _ _ _
  refine whileW (fun n s' => ∃ h i' tk m, s' = { s with heap := h, toks := tk } ∧ n = vs.length + 1 - i' ∧ i ≤ i' ∧ (∀ k v, i ≤ k → k < i' → vs[k]? = some v → hit v = true) ∧
    (∃ u : Str → Option Value, m = fun y => if (["item"] : List Str).contains y then u y else m₀ y) ∧ Fr g L h m ∧ News g L h ((it, liObj l i') :: (x, ffObj dx u_1 it) :: (dx, dictOf [] 0) :: FS)) (by first | passes_own | with_unfolding_all passes_own) ?_ (vs.length + 1 - i)
    ⟨_, i, _, m₀, rfl, rfl, Nat.le_refl _, fun k v h1 h2 => absurd h2 (Nat.not_lt.mpr h1), ⟨m₀, by simp⟩, F1, N1⟩
  rintro n s' ⟨h, i', tk, _, rfl, rfl, hi1, hi2, ⟨u, rfl⟩, F2, N2⟩
  subst hm0
  walk_at "WALKS"
  refine Halt.go ?_
  have nd2 : Nod ((it, liObj l i') :: (x, ffObj dx u_1 it) :: (dx, dictOf [] 0) :: FS) := nd
  cases ex : vs[i']? with
  | none =>
    refine nextB_stop hh F2 N2 nd2 (updH nd2) (F2.keep _ _ hl) (by simpa using ex) fun h₂ h' e F3 N3 nd3 hx => ?_
    obtain ⟨oL, hoL, hoLd⟩ := frObj F3
    refine leaveEv hA hx hoL hoLd hF (fun p hp => (N3 p (List.mem_append_right ((it, liDone i') :: (x, ffObj dx u_1 it) :: [(dx, dictOf [] 0)]) hp)).1) fun h₃ z he => ?_
    obtain ⟨FS', hs, O⟩ := noiseOut (W := [_, _, _]) F3 N3 nd3 hF z
    refine hE _ _ FS' _ _ (fun k v h1 h2 => ?_) hs he O
    rcases Nat.lt_or_ge k i' with q | q
    · exact hi2 k v h1 q h2
    · rw [List.getElem?_eq_none (Nat.le_trans (List.getElem?_eq_none_iff.mp ex) q)] at h2; cases h2
  | some v =>
    refine nextB_item F2 N2 nd2 (updH nd2) (F2.keep _ _ hl) (by simpa using ex) fun h₂ F3 N3 nd3 => ?_
    obtain ⟨eq, he1, he2⟩ := hhit v (List.mem_of_getElem? ex)
    walk_at "WALKS"
    rename Fr _ _ _ _ => F4
    rename News _ _ _ _ => N4
    refine call_contains (F4.keep _ _ hu0) (F4.keep _ _ hsk) he1 ?_
    rw [he2]
    walk_at "WALKS"
    · rename hit v = true => hv
      have hlt' := (List.getElem?_eq_some_iff.mp ex).1
      refine ⟨vs.length + 1 - (i' + 1), by omega, _, i' + 1, _, _, rfl, rfl, by omega, fun k v' h1 h2 h3 => ?_, by walk_at "FRAME", F4, N4⟩
      rcases Nat.lt_or_ge k i' with q | q
      · exact hi2 k v' h1 q h3
      · obtain rfl : k = i' := by omega
        rw [ex] at h3; cases h3; exact hv
    · exact hQ i' v _ _ hi1 hi2 ex (by assumption) (Out.of F4 N4 nd3)

end
section
section
variable {w : World} {A : Around} {s : Shared} {g : Heap} {L x dx u l sk : Addr} {m : Str → Option Value} {vs : List Value} {nv ns : Nat} {ws : Array Value} {hit : Value → Bool} {env : Env} {outer : List Env}
/-- what a walk over a filterfalse has taken -/
def keptOf (hit : Value → Bool) (l : List Value) : List Value := l.filter fun v => !hit v
theorem kept_skip {vs : List Value} {i j : Nat} (hij : i ≤ j) (hj : j ≤ vs.length) (hs : ∀ k v, i ≤ k → k < j → vs[k]? = some v → hit v = true) : keptOf hit (vs.take j) = keptOf hit (vs.take i) := by
  induction j with
  | zero => obtain rfl : i = 0 := by omega
            rfl
  | succ j ih =>
    rcases Nat.lt_or_ge i (j + 1) with q | q
    · have hlt : j < vs.length := by omega
      have e := ih (by omega) (by omega) fun k v h1 h2 h3 => hs k v h1 (by omega) h3
      rw [List.take_add_one, List.getElem?_eq_getElem hlt, ← e]
      simp only [keptOf, Option.toList_some, List.filter_append, List.filter_cons, List.filter_nil]
      rw [hs j vs[j] (by omega) (by omega) (List.getElem?_eq_getElem hlt)]
      simp
    · obtain rfl : i = j + 1 := by omega
      rfl
theorem kept_take {vs : List Value} {j : Nat} {v : Value} (h : vs[j]? = some v) (hv : hit v = false) : keptOf hit (vs.take (j + 1)) = keptOf hit (vs.take j) ++ [v] := by
  rw [List.take_add_one, h]
  simp [keptOf, hv]
theorem kept_len {vs : List Value} : (keptOf hit vs).length ≤ vs.length := List.length_filter_le ..
theorem list_loop {res : Value} {S : Addr} {R : Result → Shared → Prop} (B : Bs w g) (hl : g.get? l = some (listOf vs.toArray nv)) (hsk : g.get? sk = some (listOf ws ns))
    (hhit : ∀ v ∈ vs, ∃ e : Value → Bool, (∀ y, y ∈ ws → MeetsSeq.EqGives y v (e y)) ∧ ws.any e = hit v) (hlen : vs.length ≤ 1000)
    (hA : A.frames = some (env :: outer)) (hef : env.frame = some L) (hek : env.scope.kind ≠ .module) (hroom : A.depth < 423) (hu : A.units < 45) (hh : A.handled = none) :
    ∀ (k i : Nat) (it : Addr) (FS : List (Addr × Obj)) (h : Heap) (t c : Nat), vs.length + 1 - i = k → i ≤ vs.length → FrOf outer FS → Fr g L h m →
      News g L h ([(S, listOf (keptOf hit (vs.take i)).toArray c), (u, wrapObj "list.__contains__" sk)] ++ ([(it, liObj l i), (x, ffObj dx u it), (dx, dictOf [] 0)] ++ FS)) →
      Nod ([(S, listOf (keptOf hit (vs.take i)).toArray c), (u, wrapObj "list.__contains__" sk)] ++ ([(it, liObj l i), (x, ffObj dx u it), (dx, dictOf [] 0)] ++ FS)) →
      (∀ FS' h' t' c', SlotEq FS FS' → Fr g L h' m → News g L h' ((S, listOf (keptOf hit vs).toArray c') :: FS') → Nod ((S, listOf (keptOf hit vs).toArray c') :: FS') → R (.ok (.ret res)) { s with heap := h', toks := t' }) →
      codeAny (model Challenge.pw_ij0208_01 w) A (.builtin "list.extend.loop" ⟨[.ref S, .ref x, res], []⟩) R { s with heap := h, toks := t } := by
  intro k
  induction k using Nat.strongRecOn with
  | ind k ih =>
    intro i it FS h t c hk hi hF F N nd hR
    refine codeAny_builtin PySem.F.entry_extend_loop ?_
    rw [Around.under_plainId PySem.F.plain_extend_loop _]
    show wpAny _ A.in1 (pyNext (.ref x) >>= _) _ _ _
    refine wpAny_bind ?_
    obtain ⟨oL, hoL, hoLd⟩ := frObj F
    have I : InstAt h x (ffObj dx u it) 54 (some (dictOf [] 0)) := InstAt.mk1 (N (x, ffObj dx u it) (by simp)).1 (N (dx, dictOf [] 0) (by simp)).1
    refine owit_next (f := 50) F B.X I (by kernel_rfl) (by kernel_rfl) ?_
    have b1 := baseN (pre := [_, _]) (W := [_, _, _]) (oL := oL) F N hl
    have b2 := preN (pre := [_, _]) (W := [_, _, _]) (oL := oL) N nd (u, wrapObj "list.__contains__" sk) (.tail _ (.head _))
    have b3 := baseN (pre := [_, _]) (W := [_, _, _]) (oL := oL) F N hsk
    have b4 := haveN (pre := [_, _]) (W := [_, _, _]) N hoL
    have b5 := bsHideN (pre := [_, _]) (W := [_, _, _]) (oL := oL) F B N
    have b6 := nodN (pre := [_, _]) (W := [_, _, _]) (oL := oL) N nd
    refine ffNext (A := A.in1) (i := i) (outer := env :: outer) (FS := (L, oL) :: FS) (sk := sk) b1 b2 b3 hhit b4 b5 b6 hA ⟨hek, hef, hoLd, hF⟩ (show A.depth < 425 by omega) (show A.units + 1 < 50 by omega) hh ?_ ?_
    · intro j v h' t' hij hskip hj hv O
      obtain ⟨F2, N2, nd2⟩ := backN (pre := [_, _]) (W := [_, _, _]) (W' := [_, _, _]) (FS' := FS) F N nd hoL O ⟨oL.slots, rfl⟩
      have N3 : News g L h' ((S, listOf (keptOf hit (vs.take i)).toArray c) :: (u, wrapObj "list.__contains__" sk) :: (it, liObj l (j + 1)) :: (x, ffObj dx u it) :: (dx, dictOf [] 0) :: FS) := N2
      have nd3 : Nod ((S, listOf (keptOf hit (vs.take i)).toArray c) :: (u, wrapObj "list.__contains__" sk) :: (it, liObj l (j + 1)) :: (x, ffObj dx u it) :: (dx, dictOf [] 0) :: FS) := nd2
      have hm := N3 _ (.head _)
      have hjl := (List.getElem?_eq_some_iff.mp hj).1
      have hkl : (keptOf hit (vs.take i)).length ≤ 1000 := Nat.le_trans kept_len (Nat.le_trans (List.length_take_le' ..) hlen)
      show wpAny _ A.in1 (updateSeq S (·.push v) >>= _) _ _ _
      refine wpAny_bind ?_
      refine wpAny_updateSeq hm.1 rfl (wpAny_pure ⟨plainId_quiet PySem.F.plain_extend_loop _, ?_⟩) (by rw [sizeLine_eq]; simp; omega) (by rw [sizeLine_eq]; simp; omega)
      have hs : Heap.SameBut S h' (h'.update S (Obj.mapSeq fun x => x.push v)) := Heap.SameBut.update ..
      have e1 := Heap.get?_update_self (Obj.mapSeq fun x => x.push v) hm.1 rfl
      have e2 : (listOf (keptOf hit (vs.take i)).toArray c).mapSeq (fun x => x.push v) = listOf (keptOf hit (vs.take (j + 1))).toArray (c + 1) := by
        rw [kept_take hj hv, kept_skip hij (by omega) hskip]
        simp [Obj.mapSeq]
      have N4 := N3.setIn (own := []) (fun _ h => nomatch h) (nod_cons.mp nd3).1 hs (e2 ▸ e1)
      have nd4 : Nod ((S, listOf (keptOf hit (vs.take (j + 1))).toArray (c + 1)) :: (u, wrapObj "list.__contains__" sk) :: (it, liObj l (j + 1)) :: (x, ffObj dx u it) :: (dx, dictOf [] 0) :: FS) := nd3
      exact ih (vs.length + 1 - (j + 1)) (by omega) (j + 1) it FS _ t' (c + 1) rfl (by omega) hF (F2.change hs hm.2.1 hm.2.2) N4 nd4 hR
    · intro e j FSr h' t' hall hs he O
      obtain ⟨oe, he1, he2⟩ := he
      cases FSr with
      | nil => exact hs.elim
      | cons q FS' =>
        obtain ⟨⟨eq1, sl, eq2⟩, hs'⟩ := hs
        obtain ⟨q1, q2⟩ := q
        dsimp only at eq1 eq2
        subst eq1 eq2
        obtain ⟨F2, N2, nd2⟩ := backN (pre := [_, _]) (W := [_, _, _]) (W' := [_, _, _]) (FS' := FS') F N nd hoL O ⟨sl, rfl⟩
        have hkept : keptOf hit (vs.take i) = keptOf hit vs := by
          have := kept_skip (hit := hit) hi (Nat.le_refl _) fun k v h1 _ h3 => hall k v h1 h3
          rw [← this, List.take_length]
        unfold OwitStop
        refine wpAny_isInstance (T := "StopIteration") ⟨oe, he1, he2⟩ isSubtype_stop ?_
        rw [if_pos rfl]
        refine wpAny_pure ?_
        rw [hkept] at N2 nd2
        refine hR FS' h' t' c hs' F2 (newsSub N2 fun p hp => ?_) ?_
        · rcases List.mem_cons.mp hp with rfl | hp
          · exact .head _
          · exact List.mem_append_right [_, _] (List.mem_append_right [_, _, _] hp)
        · have : Nod ((S, listOf (keptOf hit vs).toArray c) :: ([(u, wrapObj "list.__contains__" sk), (it, liDone j), (x, ffObj dx u it), (dx, dictOf [] 0)] ++ FS')) := nd2
          exact nod_cons.mpr ⟨fun p hp => (nod_cons.mp this).1 p (List.mem_append_right _ hp), nodR (nod_cons.mp this).2⟩
end

end
section
theorem frStays {g h h' : Heap} {L : Addr} {m : Str → Option Value} (F : Fr g L h m) (st : h.StaysIn h') : Fr g L h' m := by
  obtain ⟨oL, es, ep, hL, r⟩ := F.ns
  exact ⟨⟨oL, es, ep, st _ _ hL, r⟩, fun b o e => st _ _ (F.keep b o e), F.above⟩
theorem newsStays {g h h' : Heap} {L : Addr} {W : List (Addr × Obj)} (N : News g L h W) (st : h.StaysIn h') : News g L h' W := fun p hp => ⟨st _ _ (N p hp).1, (N p hp).2⟩
section
variable {w : World} {A : Around} {s : Shared} {g : Heap} {L x dx u l sk it : Addr} {m : Str → Option Value} {vs : List Value} {nv ns : Nat} {ws : Array Value} {hit : Value → Bool} {env : Env} {outer : List Env} {FS : List (Addr × Obj)}
theorem ext_ff {S : Addr} {c : Nat} {h : Heap} {t : Nat} {R : Result → Shared → Prop} (B : Bs w g) (hl : g.get? l = some (listOf vs.toArray nv)) (hsk : g.get? sk = some (listOf ws ns))
    (hhit : ∀ v ∈ vs, ∃ e : Value → Bool, (∀ y, y ∈ ws → MeetsSeq.EqGives y v (e y)) ∧ ws.any e = hit v) (hlen : vs.length ≤ 1000)
    (hA : A.frames = some (env :: outer)) (hef : env.frame = some L) (hek : env.scope.kind ≠ .module) (hroom : A.depth < 423) (hu : A.units < 40) (hh : A.handled = none) (hF : FrOf outer FS) (F : Fr g L h m)
    (N : News g L h ([(S, listOf #[] c), (u, wrapObj "list.__contains__" sk)] ++ ([(it, liObj l 0), (x, ffObj dx u it), (dx, dictOf [] 0)] ++ FS)))
    (nd : Nod ([(S, listOf #[] c), (u, wrapObj "list.__contains__" sk)] ++ ([(it, liObj l 0), (x, ffObj dx u it), (dx, dictOf [] 0)] ++ FS)))
    (hR : ∀ FS' h' t' c', SlotEq FS FS' → Fr g L h' m → News g L h' ((S, listOf (keptOf hit vs).toArray c') :: FS') → Nod ((S, listOf (keptOf hit vs).toArray c') :: FS') → R (.ok (.ret .none)) { s with heap := h', toks := t' }) :
    wpAny (model Challenge.pw_ij0208_01 w) A.in1 (Builtin.List.listExtendWith (.ref S) (.ref x) .none)
      (fun fin s' => match fin with | .done f => R (.ok f) s' | .again c' => c'.quiet = true ∧ codeAny (model Challenge.pw_ij0208_01 w) A c' R s') (fun e s' => R (.error e) s') { s with heap := h, toks := t } := by
  have I : InstAt h x (ffObj dx u it) 54 (some (dictOf [] 0)) := InstAt.mk1 (N (x, ffObj dx u it) (by simp)).1 (N (dx, dictOf [] 0) (by simp)).1
  have hSx : S ≠ x := by
    have := (nod_cons.mp nd).1 (x, ffObj dx u it) (by simp)
    exact this.symm
  unfold Builtin.List.listExtendWith
  refine wpAny_bind (I.type.here ?_)
  have h1 : Builtin.List.listSameRef (.ref S) (.ref x) = false := by simp [Builtin.List.listSameRef, hSx]
  have h2 : (Value.ref 54 == Value.type "list") = false := by decide
  have h3 : (Value.ref 54 == Value.type "tuple") = false := by decide
  simp only [h1, h2, h3, Bool.or_false, Bool.false_eq_true, if_false]
  refine wpAny_bind (owit_iter (f := 43) F B.X I (by kernel_rfl) (by kernel_rfl) (ffIter (A := A.in1) (B.keeps F.keep) (show A.depth < 425 by omega) (show A.units + 1 < 50 by omega) hh fun h' t' st => ?_))
  have F1 := frStays F st
  have N1 := newsStays N st
  have I1 : InstAt h' x (ffObj dx u it) 54 (some (dictOf [] 0)) := InstAt.mk1 (N1 (x, ffObj dx u it) (by simp)).1 (N1 (dx, dictOf [] 0) (by simp)).1
  refine owit_it (g := .ref 50) F1 B.X I1 (by kernel_rfl) ?_
  refine wpAny_bind (wpAny_holding ?_)
  unfold Builtin.List.listLengthHint
  refine wpAny_bind (wpAny_bind (I1.type.here ((looks_findIn (B.keeps F1.keep).X (r := none) (by kernel_rfl)).here ?_)))
  show wpAny _ A.in1 (specialOf (Value.ref x) (Str.ofString "__length_hint__") >>= _) _ _ _
  refine wpAny_bind (wpAny_bind (I1.type.here ((looks_findIn (B.keeps F1.keep).X (r := none) (by kernel_rfl)).here ?_)))
  refine wpAny_pure ?_
  show wpAny _ A.in1 (rule "list.extend.makes-room" >>= fun _ => Builtin.List.listTouch (.ref S) >>= fun _ =>
    again (.builtin "list.extend.loop" ⟨[.ref S, .ref x, .none], []⟩)) _ _ _
  refine wpAny_bind (wpAny_rule ?_)
  refine wpAny_bind ?_
  show wpAny _ A.in1 (updateSeq S (·.push .none) >>= fun _ => updateSeq S (·.pop)) _ _ _
  have hm := N1 _ (.head _)
  refine wpAny_bind (wpAny_updateSeq hm.1 rfl ?_)
  have s2 : Heap.SameBut S h' (h'.update S (Obj.mapSeq (·.push Value.none))) := Heap.SameBut.update ..
  have e2 : (h'.update S (Obj.mapSeq (·.push Value.none))).get? S = some (listOf #[Value.none] (c + 1)) := Heap.get?_update_self (Obj.mapSeq (·.push Value.none)) hm.1 rfl
  have F2 := F1.change s2 hm.2.1 hm.2.2
  have N2 := News.setIn (own := []) N1 (fun _ h => nomatch h) (nod_cons.mp nd).1 s2 e2
  refine wpAny_updateSeq e2 rfl ?_
  have s3 : Heap.SameBut S (h'.update S (Obj.mapSeq (·.push Value.none))) ((h'.update S (Obj.mapSeq (·.push Value.none))).update S (Obj.mapSeq (·.pop))) := Heap.SameBut.update ..
  have e3 : ((h'.update S (Obj.mapSeq (·.push Value.none))).update S (Obj.mapSeq (·.pop))).get? S = some (listOf #[] (c + 1 + 1)) := Heap.get?_update_self (Obj.mapSeq (·.pop)) e2 rfl
  have F3 := F2.change s3 hm.2.1 hm.2.2
  have N3 := News.setIn (own := []) N2 (fun _ h => nomatch h) (nod_cons.mp nd).1 s3 e3
  exact wpAny_pure ⟨plainId_quiet PySem.F.plain_extend_loop _, list_loop (res := .none) (i := 0) B hl hsk hhit hlen hA hef hek hroom (by omega) hh _ _ _ _ _ _ rfl (Nat.zero_le _) hF F3 N3 nd hR⟩
end
section
variable {w : World} {A : Around} {E : Value → Shared → Prop} {s : Shared} {g : Heap} {L x dx u l sk it : Addr} {m : Str → Option Value} {vs : List Value} {nv ns : Nat} {ws : Array Value} {hit : Value → Bool} {env : Env} {outer : List Env} {FS : List (Addr × Obj)}
theorem call_list_ff {Q : Value → Shared → Prop} (B : Bs w g) (hl : g.get? l = some (listOf vs.toArray nv)) (hsk : g.get? sk = some (listOf ws ns))
    (hhit : ∀ v ∈ vs, ∃ e : Value → Bool, (∀ y, y ∈ ws → MeetsSeq.EqGives y v (e y)) ∧ ws.any e = hit v) (hlen : vs.length ≤ 1000)
    (hA : A.frames = some (env :: outer)) (hef : env.frame = some L) (hek : env.scope.kind ≠ .module) (hroom : A.depth < 423) (hu : A.units < 38) (hh : A.handled = none) (hF : FrOf outer FS) (F : Fr g L s.heap m)
    (N : News g L s.heap ([(u, wrapObj "list.__contains__" sk)] ++ ([(it, liObj l 0), (x, ffObj dx u it), (dx, dictOf [] 0)] ++ FS)))
    (nd : Nod ([(u, wrapObj "list.__contains__" sk)] ++ ([(it, liObj l 0), (x, ffObj dx u it), (dx, dictOf [] 0)] ++ FS)))
    (hQ : ∀ D FS' h' t' c', SlotEq FS FS' → Fr g L h' m → News g L h' ((D, listOf (keptOf hit vs).toArray c') :: FS') → Nod ((D, listOf (keptOf hit vs).toArray c') :: FS') → Q (.ref D) { s with heap := h', toks := t' }) :
    wpAny (model Challenge.pw_ij0208_01 w) A (call (.type "list") [.ref x]) Q E s := by
  refine callType_codes (Q₁ := fun obj s₁ => obj = .ref s.heap.objs.size ∧ s₁ = { s with heap := s.heap.push { cls := .type "list", data := .seq #[] } }) PySem.F.called_list (PySem.F.typeCall_list_1 _) PySem.F.entry_list_init
    (PySem.code_list_new _ ⟨rfl, rfl⟩) fun obj s₁ h₁ => ?_
  obtain ⟨rfl, rfl⟩ := h₁
  have hS : (s.heap.push { cls := .type "list", data := .seq #[] }).get? s.heap.objs.size = some (listOf #[] 0) := Heap.get?_push_size _ rfl
  have F1 : Fr g L (s.heap.push { cls := .type "list", data := .seq #[] }) m := F.push _
  have N1 := News.push F N (listOf #[] 0) rfl
  have nd1 := nodCons (o := listOf #[] 0) nd fun q hq => Heap.lt_size (N q hq).1
  refine ⟨⟨_, hS, rfl⟩, PySem.F.args_list_init_2 _ _, ?_⟩
  show wpAny _ A.in1.in1 (do let old ← Builtin.List.listItems (.ref s.heap.objs.size); Builtin.List.listUpdate (.ref s.heap.objs.size) (fun _ => #[]); letGo old.toList.reverse; Builtin.List.listExtendWith (.ref s.heap.objs.size) (.ref x) .none) _ _ _
  refine wpAny_bind ?_
  unfold Builtin.List.listItems
  refine wpAny_bind (wpAny_seqItems hS rfl (wpAny_pure ?_))
  show wpAny _ A.in1.in1 (updateSeq s.heap.objs.size (fun _ => #[]) >>= fun _ => letGo (#[] : Array Value).toList.reverse >>= fun _ => Builtin.List.listExtendWith (.ref s.heap.objs.size) (.ref x) .none) _ _ _
  refine wpAny_bind (wpAny_updateSeq hS rfl ?_)
  refine wpAny_bind (wpAny_letGo ?_)
  have s2 : Heap.SameBut s.heap.objs.size (s.heap.push { cls := .type "list", data := .seq #[] }) ((s.heap.push { cls := .type "list", data := .seq #[] }).update s.heap.objs.size (Obj.mapSeq (fun _ => #[]))) := Heap.SameBut.update ..
  have e2 : ((s.heap.push { cls := .type "list", data := .seq #[] }).update s.heap.objs.size (Obj.mapSeq (fun _ => #[]))).get? s.heap.objs.size = some (listOf #[] 0) := Heap.get?_update_self (Obj.mapSeq (fun _ => #[])) hS rfl
  have hm := N1 _ (.head _)
  have F2 := F1.change s2 hm.2.1 hm.2.2
  have N2 := News.setIn (own := []) N1 (fun _ h => nomatch h) (nod_cons.mp nd1).1 s2 e2
  refine ext_ff (A := A.in1) (s := { s with heap := s.heap.push { cls := .type "list", data := .seq #[] } }) (c := 0) B hl hsk hhit hlen hA hef hek hroom (show A.units + 1 < 40 by omega) hh hF F2 N2 nd1 fun FS' h' t' c' hs F' N' nd' => ?_
  exact ⟨rfl, hQ _ _ _ _ _ hs F' N' nd'⟩
end

end
section
theorem reset_FL : True := by
  w_top off
  trivial
section
variable {prog : Program} {w : World} {A : Around} {E : Value → Shared → Prop} {s : Shared} {g : Heap} {L l : Addr} {m : Str → Option Value} {news : List (Addr × Obj)} {items : Array Value} {n : Nat}
theorem gaContainsF {ex : Bool} {Q : Value → Shared → Prop} (F : Fr g L s.heap m) (N : News g L s.heap news) (nd : Nod news) (hl : s.heap.get? l = some (listOf items n))
    (h : ∀ u h', Fr g L h' m → News g L h' ((u, wrapObj "list.__contains__" l) :: news) → Nod ((u, wrapObj "list.__contains__" l) :: news) → Q (.ref u) { s with heap := h', toks := s.toks + 1 }) :
    wpAny (model prog w) A (getAttr (.ref l) (Str.ofString "__contains__") ex) Q E s :=
  getAttr_contains hl (h _ _ (F.push _) (News.push F N _ rfl) (nodCons nd fun q hq => Heap.lt_size (N q hq).1))
end
local macro_rules | `(tactic| walk_at "getAttr ref") => `(tactic| ((with_reducible show wpAny _ _ (getAttr _ (Str.ofString "__contains__") _) _ _ _); k_dflt ((rename Nod _ => nd9); refine gaContainsF (by assumption) (by assumption) nd9 (by walk_at "HGET") ?_; intro u' h' F' N' nd'; clear nd9)))
local macro_rules | `(tactic| walk_at "call ref") => `(tactic| ((with_reducible show wpAny _ _ (call (Value.ref 54) _) _ _ _); k_dflt ((rename Nod _ => nd9); refine mkFF (by assumption) (by assumption) (by assumption) nd9 (by assumption) (by walk_at "DEPTH") (by walk_at "DEPTH") (by assumption) ?_; intro x' dx' it' h' t' F' N' nd'; clear nd9)))
local macro_rules | `(tactic| walk_at "call type:list") => `(tactic| refine Halt.go ?_)
theorem filterSpec {w : World} {A : Around} {s : Shared} {l sk : Addr} {vs : List Value} {nv ns : Nat} {ws : Array Value} {hit : Value → Bool} {outer : List Env} {FS : List (Addr × Obj)} {Q E : Value → Shared → Prop}
    (hl : (hideAll s.heap (FS.map (·.1))).get? l = some (listOf vs.toArray nv))
    (hsk : (hideAll s.heap (FS.map (·.1))).get? sk = some (listOf ws ns))
    (hhit : ∀ v ∈ vs, ∃ e : Value → Bool, (∀ y, y ∈ ws → MeetsSeq.EqGives y v (e y)) ∧ ws.any e = hit v) (hlen : vs.length ≤ 1000)
    (N : ∀ p ∈ FS, s.heap.get? p.1 = some p.2) (B : Bs w (hideAll s.heap (FS.map (·.1)))) (nd : Nod FS)
    (hA : A.frames = some outer) (hF : FrOf outer FS) (hroom : A.depth < 420) (hu : A.units < 30) (hh : A.handled = none)
    (hQ : ∀ D FS' n' h' t', SlotEq FS FS' → Out (hideAll s.heap (FS.map (·.1))) ((D, listOf (keptOf hit vs).toArray n') :: FS') h' → Q (.ref D) { s with heap := h', toks := t' }) :
    wpAny (model PySem.Challenge.pw_ij0208_01 w) A (call (.ref 65) [.ref l, .ref sk]) Q E s := by
  refine wpAny_call (enter (f := 65) _ rfl B N (by kernel_rfl) (Nat.lt_trans hroom (by decide)) (binds := [(Str.ofString "flist", .ref l), (Str.ofString "skip", .ref sk)]) (.of_eq rfl) (locs (by rfl)) ?_)
  intro L h₁ F N hlt
  generalize (hideAll s.heap _) = g at B F N hQ hl hsk
  walk_at "WALKS"
  rename Fr _ _ _ _ => F1
  rename News _ _ _ _ => N1
  rename Nod _ => nd1
  rename_i u' _ _ _ x' dx' it' _ _
  have hp : ([(u', wrapObj "list.__contains__" sk)] ++ ([(it', liObj l 0), (x', ffObj dx' u' it'), (dx', dictOf [] 0)] ++ FS)).Perm ((it', liObj l 0) :: (x', ffObj dx' u' it') :: (dx', dictOf [] 0) :: (u', wrapObj "list.__contains__" sk) :: FS) :=
    (List.perm_middle (l₁ := [_, _, _])).symm
  change wpAny _ _ _ _ _ _
  exact call_list_ff (outer := outer) (FS := FS) (hit := hit) B hl hsk hhit hlen (Around.frames_deeper hA) rfl (show ScopeKind.function ≠ ScopeKind.module by decide) (by walk_at "DEPTH") (by walk_at "DEPTH") hh hF F1 (newsPerm N1 hp) (nodPerm nd1 hp) fun D FS' h' t' c' hs F2 N2 nd2 => hQ _ _ _ _ _ hs (Out.of F2 N2 nd2)

end
section
theorem reset_FC : True := by
  w_top off
  trivial
theorem frOf {g h : Heap} {L : Addr} {m m' : Str → Option Value} (F : Fr g L h m) (e : ∀ y, m' y = m y) : Fr g L h m' := by
  rw [show m' = m from funext e]; exact F
theorem nodSub {l l' : List (Addr × Obj)} (nd : Nod l) (h : l'.Sublist l) : Nod l' := (h.map _).nodup nd
local macro_rules | `(tactic| walk_at "exec If") => `(tactic| ((with_reducible show wpAny _ _ (exec (Stmt.If _ [Stmt.If _ _ _ _] (_ :: _) _) _) _ _ _); refine Halt.go ?_))
theorem delD {prog : Program} {w : World} {K : Type} [DecidableEq K] {knd : KeyKind prog w K} {A : Around} {E : Value → Shared → Prop} {s : Shared} {h₀ : Heap} {L d : Addr} {m : Str → Option Value} {news : List (Addr × Obj)} {g : Obj → List (Addr × Obj)} {o : Obj} {kvs : List (K × Value)} {k : K} {key : Value}
    {Q : Unit → Shared → Prop} (F : Fr h₀ L s.heap m) (N : News h₀ L s.heap news) (nd : Nod news) (U : UpdF d o news g) (hd : o.IsDictOf knd kvs) (hkey : knd.is k key = true) (hl : (valueAt kvs k).isSome = true) (hsz : kvs.length ≤ sizeLine)
    (h : ∀ h' o', Fr h₀ L h' m → News h₀ L h' (g o') → Nod (g o') → o'.IsDictOf knd (without kvs k) → Q () { s with heap := h', toks := s.toks + 1 }) : wpAny (model prog w) A (delItem (.ref d) key) Q E s :=
  kob_del F N U hd hkey hl hsz fun h' o' F' N' hd' => h h' o' F' N' (nod_updF U nd o') hd'
theorem va_isSome {kvs : List (Int × Value)} {k : Int} (h : k ∈ kvs.map (·.1)) : (valueAt kvs k).isSome = true := by
  obtain ⟨p, hp, rfl⟩ := List.mem_map.mp h
  unfold valueAt
  rw [Option.isSome_map, List.find?_isSome]
  exact ⟨p, hp, by simp⟩
theorem kvSE_without {e : SE} {r : List SE} (hn : (keysSE (e :: r)).Nodup) : without (kvSE (e :: r)) e.d.key = kvSE r := by
  have h0 : keysSE (e :: r) = keysSE r ++ [e.d.key] := by simp [keysSE]
  rw [h0, List.nodup_append] at hn
  have h1 : ∀ p ∈ kvSE r, p.1 ≠ e.d.key := fun p hp => hn.2.2 p.1 (by rw [← kvSE_keys]; exact List.mem_map_of_mem hp) _ (.head _)
  simp only [kvSE, without, List.filter_append]
  rw [List.filter_eq_self.mpr (by simpa using h1)]
  simp
theorem popF {p : Program} {w : World} {A : Around} {s : Shared} {E : Value → Shared → Prop} {g : Heap} {L D : Addr} {m : Str → Option Value} {news news' : List (Addr × Obj)} {a : List Value} {y : Value} {n : Nat} {Q : Value → Shared → Prop}
    (F : Fr g L s.heap m) (N : News g L s.heap news) (nd : Nod news) (U : Upd D (listOf (a ++ [y]).toArray n) (listOf a.toArray (n + 1)) news news') (hz : a.length < 1000)
    (h : ∀ h', Fr g L h' m → News g L h' news' → Nod news' → Q y { s with heap := h' }) : wpAny (model p w) A (call (.builtin "list.pop") [.ref D]) Q E s :=
  kl_pop F N (kpa_last y a) U (by rw [sizeLine_eq]; simp; omega) fun h' F' N' => h h' F' N' (nod_upd U nd)
local macro_rules | `(tactic| walk_at "exec Expr Call") => `(tactic| ((with_reducible show wpAny _ _ (exec (Stmt.Expr (Expr.Call (Expr.Attribute _ _ _) [] [] _) _) _) _ _ _); refine wpAny_Expr_any ?_))
local macro_rules | `(tactic| walk_at "getMethod ref") => `(tactic| ((with_reducible show wpAny _ _ (getMethod _ (Str.ofString "pop") _) _ _ _); k_dflt (refine' listMethod_K ?N ?m PySem.F.slot_list_pop PySem.F.type_list_pop ?_; (case N => assumption); (case m => walk_at "MEM"))))
local macro_rules | `(tactic| walk_at "call builtin:list.pop") => `(tactic| k_dflt (refine' popF ?F ?N ?nd ?U ?z ?_; (case F => assumption); (case N => assumption); (case nd => assumption); (case U => walk_at "UPD"); (case z => assumption); intro h' F' N' nd'))
inductive FW1 (w : World) (nodes : List Nd) (sc : Int → List Int) (s : Shared) (g : Heap) (L I P Z T S : Addr) (o : Obj) (p : Int × Value) (fin : List Int) (FS : List (Addr × Obj)) (m₁ : Str → Option Value) (n : Nat) (s' : Shared) : Prop
  | mk (h : _) (tk : _) (st' : _) (fin' : _) (rs : _) (cur : _) (ct : _) (oP : _) (so : _) (n1 : _) (n2 : _) (FS' : _) (a0 : s' = { s with heap := h, toks := tk }) (a1 : n = meas sc st' (nodes.map Nd.key)) (a2 : FI w nodes sc st' fin' rs oP so) (a3 : DA sc st' (keysSE rs) fin' cur) (a4 : cur ∈ nodes.map Nd.key) (a5 : (st' p.1 ≠ none ∨ cur = p.1)) (a6 : (∀ k ∈ fin, k ∈ fin')) (a7 : SlotEq FS FS') (a8 : Fr g L h (fun y => if y = Str.ofString "node" then some (.int cur ct) else m₁ y)) (a9 : News g L h ((I, o) :: (P, oP) :: (Z, so) :: (T, listOf (refsSE rs).toArray n2) :: (S, listOf (intsSE rs).toArray n1) :: (famSE rs ++ FS'))) (a10 : Nod ((I, o) :: (P, oP) :: (Z, so) :: (T, listOf (refsSE rs).toArray n2) :: (S, listOf (intsSE rs).toArray n1) :: (famSE rs ++ FS'))) : FW1 w nodes sc s g L I P Z T S o p fin FS m₁ n s'
inductive FW2 (w : World) (nodes : List Nd) (sc : Int → List Int) (s : Shared) (g : Heap) (L I P Z T S : Addr) (o : Obj) (p : Int × Value) (st2 : Int → Option Nat) (fin' : List Int) (FS : List (Addr × Obj)) (m₃ : Str → Option Value) (n : Nat) (s' : Shared) : Prop
  | mk (h : _) (tk : _) (fin3 : _) (rs : _) (cur : _) (ct : _) (oP : _) (so : _) (n1 : _) (n2 : _) (FS' : _) (a0 : s' = { s with heap := h, toks := tk }) (a1 : n = rs.length) (a2 : FI w nodes sc st2 fin3 rs oP so) (a3 : DB sc st2 (keysSE rs) fin3) (a4 : (∀ k ∈ fin', k ∈ fin3)) (a5 : SlotEq FS FS') (a6 : Fr g L h (fun y => if y = Str.ofString "node" then some (.int cur ct) else m₃ y)) (a7 : News g L h ((I, o) :: (P, oP) :: (Z, so) :: (T, listOf (refsSE rs).toArray n2) :: (S, listOf (intsSE rs).toArray n1) :: (famSE rs ++ FS'))) (a8 : Nod ((I, o) :: (P, oP) :: (Z, so) :: (T, listOf (refsSE rs).toArray n2) :: (S, listOf (intsSE rs).toArray n1) :: (famSE rs ++ FS'))) : FW2 w nodes sc s g L I P Z T S o p st2 fin' FS m₃ n s'
inductive FW3 (w : World) (nodes : List Nd) (sc : Int → List Int) (s : Shared) (g : Heap) (L I P Z T S : Addr) (o : Obj) (p : Int × Value) (st' : Int → Option Nat) (fin' : List Int) (FS : List (Addr × Obj)) (m₂ : Str → Option Value) (s' : Shared) : Prop
  | mk (h : _) (tk : _) (st'' : _) (rs' : _) (cur' : _) (ct' : _) (oP : _) (so : _) (n1 : _) (n2 : _) (FS' : _) (a0 : s' = { s with heap := h, toks := tk }) (a1 : meas sc st'' (nodes.map Nd.key) ≤ meas sc st' (nodes.map Nd.key)) (a2 : FI w nodes sc st'' fin' rs' oP so) (a3 : DB sc st'' (keysSE rs') fin') (a4 : st'' p.1 ≠ none) (a5 : SlotEq FS FS') (a6 : Fr g L h (fun y => if y = Str.ofString "node" then some (.int cur' ct') else m₂ y)) (a7 : News g L h ((I, o) :: (P, oP) :: (Z, so) :: (T, listOf (refsSE rs').toArray n2) :: (S, listOf (intsSE rs').toArray n1) :: (famSE rs' ++ FS'))) (a8 : Nod ((I, o) :: (P, oP) :: (Z, so) :: (T, listOf (refsSE rs').toArray n2) :: (S, listOf (intsSE rs').toArray n1) :: (famSE rs' ++ FS'))) : FW3 w nodes sc s g L I P Z T S o p st' fin' FS m₂ s'
theorem findCycle {w : World} {A : Around} {s : Shared} {x dx D : Addr} {d : SD} {V : Value} {np nf : Int} {oD : Obj} {nodes : List Nd} {sc : Int → List Int} {outer : List Env} {FS : List (Addr × Obj)} {Q E : Value → Shared → Prop}
    (hD : oD.IsDictOf (intKind Challenge.pw_ij0208_01 w) (kvsOf nodes)) (hlo : (D == sysModules) = false)
    (hx : (hideAll s.heap (FS.map (·.1))).get? x = some (sobj dx)) (hdx : (hideAll s.heap (FS.map (·.1))).get? dx = some (sdict d (.ref D) V np nf)) (hDo : (hideAll s.heap (FS.map (·.1))).get? D = some oD)
    (hnodes : ∀ p ∈ famOf nodes, (hideAll s.heap (FS.map (·.1))).get? p.1 = some p.2)
    (hsc : ∀ d ∈ nodes, d.succ.map (·.1) = sc d.key) (hins : ∀ d ∈ nodes, ∀ q ∈ sc d.key, ∃ d' ∈ nodes, d'.key = q) (hlen : nodes.length ≤ 100)
    (N : ∀ p ∈ FS, s.heap.get? p.1 = some p.2) (B : Bs w (hideAll s.heap (FS.map (·.1)))) (nd : Nod FS)
    (hA : A.frames = some outer) (hF : FrOf outer FS) (hroom : A.depth < 420) (hu : A.units < 30) (hh : A.handled = none)
    (hC : ∀ C items n h' t' FS', items ≠ [] → items.length ≤ 1000 → (∃ v, Relation.TransGen (fun a b => b ∈ sc a) v v) → SlotEq FS FS' → Out (hideAll s.heap (FS.map (·.1))) ((C, listOf items.toArray n) :: FS') h' → Q (.ref C) { s with heap := h', toks := t' })
    (hN : ∀ h' t' FS', (∃ rank : Int → Nat, ∀ d ∈ nodes, ∀ q ∈ sc d.key, rank q < rank d.key) → SlotEq FS FS' → Out (hideAll s.heap (FS.map (·.1))) FS' h' → Q .none { s with heap := h', toks := t' }) :
    wpAny (model PySem.Challenge.pw_ij0208_01 w) A (call (.ref 171) [.ref x]) Q E s := by
  refine wpAny_call (enter (f := 171) _ rfl B N (by kernel_rfl) (Nat.lt_trans hroom (by decide)) (binds := [(Str.ofString "self", .ref x)]) (.of_eq rfl) (locs (by rfl)) ?_)
  intro L h₁ F N hlt
  generalize (hideAll s.heap _) = g at B F N hC hN hx hdx hDo hnodes
  walk_at "WALKS"
  rename Nod _ => nd1
  change wpAny _ _ _ _ _ _
  rename Fr _ _ _ _ => F1
  rename News _ _ _ _ => N1
  rename Obj.IsDictOf _ _ _ => hP
  rename Obj.SetObjOf _ _ _ _ => hZ
  rename (_ == sysModules) = false => hloP
  rename_i S _ _ _ _ _ _ _ T _ _ _ _ _ _ _ Z _ _ _ _ _ _ _ P _ _ _ _ _ _
  obtain ⟨m₀, hm0, F1⟩ := frNamed F1
  have hk := dict_keys hD
  have hkeys : (kvsOf nodes).length = nodes.length := by simp
  refine iterD hD hlo (fun i m nw => ∃ st fin oP so n1 n2 FS', FI w nodes sc st fin [] oP so ∧ (∀ j k, j < i → (nodes.map Nd.key)[j]? = some k → k ∈ fin) ∧ SlotEq FS FS' ∧
    nw = (P, oP) :: (Z, so) :: (T, listOf #[] n2) :: (S, listOf #[] n1) :: FS' ∧ ∃ u : Str → Option Value, m = fun y => if (["node"] : List Str).contains y then u y else m₀ y) hh F1 N1 nd1 (.inr hDo)
    ⟨fun _ => none, [], _, _, _, _, FS, ⟨DI.start (by simp) trivial List.nodup_nil (by simp), (fun _ h => nomatch h), hP, hZ⟩, fun j k h => absurd h (Nat.not_lt_zero _), SlotEq.refl _, rfl, m₀, by funext y; simp⟩ ?_ ?_
  · rintro I i p tv m nw h tk o hp hIlt ⟨st, fin, oP, so, n1, n2, FS', fi, hfin, hs, rfl, u, rfl⟩ nd2 F2 N2
    refine cutQ fun Q6 hQ6 => ?_
    obtain ⟨m₁, hm1⟩ : ∃ m₁ : Str → Option Value, m₁ = m₀ := ⟨m₀, rfl⟩
    subst hm0
    replace F2 : Fr g L h _ := F2
    replace N2 : News g L h _ := N2
    have hso := fi.so
    have hb := fi.D.bound
    simp only [List.length_map] at hb
    have hb1 : fin.length + ([] : List SE).length < scanBound := by simp [scanBound] at hb ⊢; omega
    have hpk : (nodes.map Nd.key)[i]? = some p.1 := by
      rw [← kvs_keys, List.getElem?_map, hp]; rfl
    walk_at "WALKS"
    · refine hQ6 _ _ ?_
      refine ⟨_, _, _, _, rfl, F2, N2, nd2, st, fin, oP, so, n1, n2, FS', fi, fun j k hj hk => ?_, hs, rfl, by walk_at "FRAME"⟩
      rcases Nat.lt_or_ge j i with q | q
      · exact hfin j k q hk
      · obtain rfl : j = i := by omega
        rw [hpk] at hk; cases hk
        rename (st p.1).isSome = true => hsome
        have := (fi.D.seen p.1).mp (fun e => by rw [e] at hsome; cases hsome)
        simpa [keysSE] using this
    · change wpAny _ _ _ _ _ _
      refine whileW (FW1 w nodes sc s g L I P Z T S o p fin FS m₁) (by first | passes_own | with_unfolding_all passes_own) ?_ _
        ⟨h, _, st, fin, [], p.1, tv, oP, so, n1, n2, FS', rfl, rfl, fi, (fun v hv => by simp [keysSE] at hv), List.mem_of_getElem? hpk, .inr rfl, fun k hk => hk, hs, ?_, N2, nd2⟩
      rotate_left
      · have e : (fun y => if y = Str.ofString "node" then some (.int p.1 tv) else m₁ y) = fun y => if y = Str.ofString "node" then some (.int p.1 tv) else if (["node"] : List Str).contains y then u y else m₁ y := by
          funext y; by_cases hy : y = Str.ofString "node" <;> simp [hy]
        rw [e, hm1]; exact F2
      clear N2 nd2 F2 hso hb hb1 hs
      rintro n s' ⟨h, tk, st', fin', rs, cur, ct, oP, so, n1, n2, FS', rfl, rfl, fi, da, hcur, hp1, hfin', hs, F2, N2, nd2⟩
      obtain ⟨m₂, hm2⟩ : ∃ m₂ : Str → Option Value, m₂ = m₁ := ⟨m₁, rfl⟩
      subst hm1
      walk_at "WALKS"
      change wpAny _ _ _ _ _ _
      refine cutQ fun Q8 hQ8 => ?_
      have hbd := fi.D.bound
      simp only [List.length_map, keysSE_len] at hbd
      have hz1 : (refsSE rs).toArray.size < 1000 := by simp [refsSE]; omega
      have hz2 : (intsSE rs).toArray.size < 1000 := by simp [intsSE]; omega
      have hz3 : (intsSE rs).length = rs.length := by simp [intsSE]
      have hb1 : fin'.length + rs.length < scanBound := by simp [scanBound]; omega
      have hb2 : fin'.length + rs.length + 1 < scanBound := by simp [scanBound]; omega
      have hz4 : (kvSE rs).length ≤ sizeLine := by
        have := congrArg List.length (kvSE_keys rs)
        rw [List.length_map, keysSE_len] at this
        rw [sizeLine_eq]; omega
      have hso := fi.so
      have hoP := fi.oP
      refine wpAny_mono (?hcut : wpAny _ _ _ (fun f s' => (f = .next ∧ FW3 w nodes sc s g L I P Z T S o p st' fin' FS m₂ s') ∨ ∃ C, f = .ret (.ref C) ∧ Q (.ref C) s') _ _) ?_ (fun _ _ z => z)
      case hcut =>
        refine cutQ fun Q9 hQ9 => ?_
        refine wpAny_If ?_
        by_cases hc : st' cur = none
        · have hcs : (st' cur).isSome = false := by rw [hc]; rfl
          obtain ⟨dj, hdj, hkey⟩ := List.mem_map.mp hcur
          obtain ⟨j, hj⟩ := List.getElem?_of_mem hdj
          have hval := kvs_at hk hj
          rw [hkey] at hval
          have a1 : g.get? dj.a = some dj.node := hnodes _ (mem_fam_a hj)
          have a2 : g.get? dj.da = some (dictOf [] 0) := hnodes _ (mem_fam_d hj)
          have a3 : g.get? dj.sa = some dj.list := hnodes _ (mem_fam_s hj)
          walk_at "WALKS"
          all_goals first | (exfalso; rename (st' cur).isSome = true => hx; rw [hcs] at hx; cases hx; done) | skip
          rename Fr _ _ _ _ => F5
          rename News _ _ _ _ => N5
          rename Nod _ => nd5
          rename Obj.SetObjOf _ _ _ _ => hs1
          rename Obj.IsDictOf _ _ _ => hd1
          rename_i so' _ _ I' _ _ _ u' _ _ _ _ _ _ _ _ a9 _ _ o' _ _ _ _
          obtain ⟨D2, DB2⟩ := fi.D.push da hc hcur
          have hcS : cur ∉ keysSE rs := fun hm => (fi.D.seen cur).mpr (.inl hm) hc
          have ek : keysSE (⟨u', I', dj, 0, ct, a9⟩ :: rs) = keysSE rs ++ [cur] := by simp [keysSE, hkey]
          have eT : (refsSE (⟨u', I', dj, 0, ct, a9⟩ :: rs)).toArray = (refsSE rs).toArray.push (.ref u') := by simp [refsSE]
          have eS : (intsSE (⟨u', I', dj, 0, ct, a9⟩ :: rs)).toArray = (intsSE rs).toArray.push (.int cur ct) := by simp [intsSE, hkey]
          have e1 : (fun k' => (st' k').isSome || decide (k' = cur)) = fun k => (ust st' cur 0 k).isSome := by
            funext k
            by_cases e : k = cur
            · subst e; simp [ust]
            · simp [ust, e]
          have hp : ((I, o) :: (P, o') :: (Z, so') :: (T, listOf ((refsSE rs).toArray.push (.ref u')) (n2 + 1)) :: (S, listOf ((intsSE rs).toArray.push (.int cur ct)) (n1 + 1)) :: (famSE (⟨u', I', dj, 0, ct, a9⟩ :: rs) ++ FS')).Perm
              ((u', wrapObj "list_iterator.__next__" I') :: (I', liObj dj.sa 0) :: (I, o) :: (P, o') :: (Z, so') :: (T, listOf ((refsSE rs).toArray.push (.ref u')) (n2 + 1)) :: (S, listOf ((intsSE rs).toArray.push (.int cur ct)) (n1 + 1)) :: (famSE rs ++ FS')) :=
            List.Perm.append_right (famSE rs ++ FS') (List.perm_append_comm (l₁ := [_, _, _, _, _]) (l₂ := [_, _]))
          refine hQ9 _ _ ?_
          refine .inl ⟨rfl, _, _, ust st' cur 0, ⟨u', I', dj, 0, ct, a9⟩ :: rs, cur, ct, o', so', n1 + 1, n2 + 1, FS', rfl, ?_, ⟨by rw [ek]; exact D2, fun e he => ?_, ?_, ?_⟩, by rw [ek]; exact DB2, ?_, hs, by rw [hm2]; exact F5, by rw [eT, eS]; exact newsPerm N5 hp, by rw [eT, eS]; exact nodPerm nd5 hp⟩
          · exact Nat.le_of_succ_le (meas_lt hcur hk (dm_push hc) fun k _ hne => dm_ne hne)
          · rcases List.mem_cons.mp he with rfl | he
            · exact ⟨by rw [hkey]; exact ust_self, hdj⟩
            · have := fi.ent e he
              refine ⟨?_, this.2⟩
              rw [ust_ne fun e' => ?_]
              · exact this.1
              · rw [← e', this.1] at hc; cases hc
          · rw [stored_new (kvSE_none hcS), hz3, ← hkey] at hd1
            exact hd1
          · rw [e1, hcs, if_neg Bool.false_ne_true] at hs1
            exact hs1
          · by_cases e : p.1 = cur
            · rw [e, ust_self]; simp
            · rw [ust_ne e]; exact hp1.resolve_right fun h => e h.symm
        · have hcs : (st' cur).isSome = true := by cases q : st' cur with | none => exact absurd q hc | some _ => rfl
          by_cases hm : cur ∈ keysSE rs
          · obtain ⟨ci, cit, hval, hci⟩ := kvSE_some fi.D.nodS hm
            have hvn : (valueAt (kvSE rs) cur).isSome = true := by rw [hval]; rfl
            walk_at "WALKS"
            all_goals first | (exfalso; rename (st' cur).isSome = false => hx; rw [hcs] at hx; cases hx; done) | skip
            rename Fr _ _ _ _ => F5
            rename News _ _ _ _ => N5
            rename Nod _ => nd5
            have hS5 := (N5 (S, listOf (intsSE rs).toArray n1) (by simp)).1
            refine slice_list3 (lo := some (ci : Int)) (hi := none) (st := none) F5 N5 (isListH hS5) (.int _ _) .none .none (by simp) (fun h6 F6 N6 => ?_) (hsz := by rw [sizeLine_eq]; omega)
            have nd6 := nodCons (D := _) (o := listOf (slicePick (intsSE rs).toArray (some (ci : Int)) none none) 0) nd5 fun q hq => Nat.lt_succ_of_lt (Heap.lt_size (N5 q hq).1)
            walk_at "WALKS"
            rename Fr _ _ _ _ => F7
            rename News _ _ _ _ => N7
            rename Nod _ => nd7
            have e7 : (slicePick (intsSE rs).toArray (some (ci : Int)) none none).toList.toArray = slicePick (intsSE rs).toArray (some (ci : Int)) none none := Array.toArray_toList
            refine add_lists (vs := (slicePick (intsSE rs).toArray (some (ci : Int)) none none).toList) (ws := [Value.int cur ct]) F7 N7 (by rw [e7]; exact isListH (n := 0) (N7 _ (.tail _ (.head _))).1) (isListH (n := 0) (N7 _ (.head _)).1) (fun h8 F8 N8 => ?_) ?_
            · have nd8 := nodCons (o := listOf ((slicePick (intsSE rs).toArray (some (ci : Int)) none none).toList ++ [Value.int cur ct]).toArray 0) nd7 fun q hq => Heap.lt_size (N7 q hq).1
              refine hQ9 _ _ ?_
              refine .inr ⟨_, rfl, hC _ ((slicePick (intsSE rs).toArray (some (ci : Int)) none none).toList ++ [Value.int cur ct]) 0 _ _ FS' (by simp) (by have := slicePick_size_le (intsSE rs).toArray (some (ci : Int)) none none; rw [List.length_append, Array.length_toList, List.length_singleton]; omega) ⟨cur, fi.D.ring da hm⟩ hs ((Out.of F8 N8 nd8).sub (fun q hq => ?_) ?_)⟩
              · rcases List.mem_cons.mp hq with rfl | hq
                · exact .head _
                · exact .tail _ (.tail _ (.tail _ (.tail _ (.tail _ (.tail _ (.tail _ (.tail _ (List.mem_append_right _ hq))))))))
              · exact nodSub nd8 (.cons_cons _ (.cons _ (.cons _ (.cons _ (.cons _ (.cons _ (.cons _ (.cons _ (List.sublist_append_right _ _)))))))))
            · have := slicePick_size_le (intsSE rs).toArray (some (ci : Int)) none none
              rw [sizeLine_eq, Array.length_toList, List.length_singleton]
              omega
          · have hvn : (valueAt (kvSE rs) cur).isSome = false := by rw [kvSE_none hm]; rfl
            walk_at "WALKS"
            all_goals first | (exfalso; rename (st' cur).isSome = false => hx; rw [hcs] at hx; cases hx; done) | skip
            rename Fr _ _ _ _ => F5
            rename News _ _ _ _ => N5
            rename Nod _ => nd5
            refine hQ9 _ _ ?_
            exact .inl ⟨rfl, _, _, st', rs, cur, ct, oP, so, n1, n2, FS', rfl, Nat.le_refl _, fi, fi.D.skip da hc hm, hp1.elim id (fun h => h ▸ hc), hs, by rw [hm2]; exact F5, N5, nd5⟩
      · rintro f s' (⟨rfl, h2, tk2, st2, rs2, cur2, ct2, oP2, so2, n12, n22, FS2, rfl, hms, fi2, db, hp2, hs2, F3, N3, nd3⟩ | ⟨C, rfl, hQC⟩)
        · clear F2 N2 nd2 hs fi da hso hoP hz1 hz2 hz3 hz4 hb1 hb2 hbd
          obtain ⟨m₃, hm3⟩ : ∃ m₃ : Str → Option Value, m₃ = m₂ := ⟨m₂, rfl⟩
          subst hm2
          refine hQ8 _ _ ?_
          walk_at "WALKS"
          change wpAny _ _ _ _ _ _
          refine cutQ fun Q5 hQ5 => ?_
          refine whileW (FW2 w nodes sc s g L I P Z T S o p st2 fin' FS m₃) (by first | passes_own | with_unfolding_all passes_own) ?_ _
            ⟨h2, _, fin', rs2, cur2, ct2, oP2, so2, n12, n22, FS2, rfl, rfl, fi2, db, fun k hk => hk, hs2, by rw [hm3]; exact F3, N3, nd3⟩
          clear F3 N3 nd3 fi2 db hs2
          rintro n s' ⟨h, tk, fin3, rs, cur, ct, oP, so, n1, n2, FS', rfl, rfl, fi, db, hf3, hs, F2, N2, nd2⟩
          subst hm3
          have hbd := fi.D.bound
          simp only [List.length_map, keysSE_len] at hbd
          have hem : (intsSE rs).toArray.isEmpty = rs.isEmpty := by cases rs <;> simp [intsSE]
          cases rs with
          | nil =>
            walk_at "WALKS"
            refine hQ5 _ _ ?_
            change wpAny _ _ (execs [] _) _ _ _
            walk_at "WALKS"
            refine hQ6 _ _ ?_
            refine ⟨_, _, _, _, rfl, F2, N2, nd2, st2, fin3, oP, so, n1, n2, FS', fi, fun j k hj hk => ?_, hs, rfl, by walk_at "FRAME"⟩
            rcases Nat.lt_or_ge j i with q | q
            · exact hf3 k (hfin' k (hfin j k q hk))
            · obtain rfl : j = i := by omega
              rw [hpk] at hk; cases hk
              simpa [keysSE] using (fi.D.seen p.1).mp hp2
          | cons e r =>
            simp only [List.length_cons] at hbd
            walk_at "WALKS"
            refine WhlIf.yes (by rw [hem]; rfl) ?_
            refine cutQ fun Q7 hQ7 => ?_
            walk_at "WALKS"
            have hT := (N2 (T, listOf (refsSE (e :: r)).toArray n2) (by simp)).1
            refine itemLast (x := .ref e.u) (isListH hT) (by simp [refsSE]) (by simp [refsSE]) ?_
            have hfe : famSE (e :: r) ++ FS' = (e.u, wrapObj "list_iterator.__next__" e.it) :: (e.it, liObj e.d.sa e.p) :: (famSE r ++ FS') := rfl
            rw [hfe] at N2 nd2
            have hent := fi.ent e (.head _)
            have a3 : g.get? e.d.sa = some e.d.list := by
              obtain ⟨j, hj⟩ := List.getElem?_of_mem hent.2
              exact hnodes _ (mem_fam_s hj)
            walk_at "WALKS"
            have hwrap := (N2 (e.u, wrapObj "list_iterator.__next__" e.it) (by simp)).1
            have hnS := fi.D.nodS
            cases ex : e.d.succ[e.p]? with
            | some q =>
              have hsq : (sc e.d.key)[e.p]? = some q.1 := by rw [← hsc e.d hent.2, List.getElem?_map, ex]; rfl
              obtain ⟨D2, DA2⟩ := fi.D.adv db (keysSE_last e r) hent.1 hsq
              refine wrapN_item (i := e.p) (x := .int q.1 q.2) F2 N2 nd2 hwrap (by walk_at "UPD") (F2.keep _ _ a3) (by simp [ivals, ex]) fun h5 F5 N5 nd5 => ?_
              walk_at "WALKS"
              refine hQ7 _ _ (hQ5 _ _ ?_)
              change wpAny _ _ (execs [] _) _ _ _
              walk_at "WALKS"
              rename Fr _ _ _ _ => F6
              rename News _ _ _ _ => N6
              have hmem : e.d.key ∈ nodes.map Nd.key := List.mem_map_of_mem hent.2
              have hq : q.1 ∈ nodes.map Nd.key := by
                obtain ⟨d', h1, h2⟩ := hins e.d hent.2 q.1 (List.mem_of_getElem? hsq)
                exact List.mem_map.mpr ⟨d', h1, h2⟩
              have hml := meas_lt (sc := sc) hmem hk (dm_adv hent.1 hsq) fun k _ hne => dm_ne hne
              have ek : keysSE ({ e with p := e.p + 1 } :: r) = keysSE (e :: r) := by simp [keysSE]
              have eT : refsSE ({ e with p := e.p + 1 } :: r) = refsSE (e :: r) := by simp [refsSE]
              have eS : intsSE ({ e with p := e.p + 1 } :: r) = intsSE (e :: r) := by simp [intsSE]
              refine ⟨_, Nat.lt_of_lt_of_le (Nat.lt_of_succ_le hml) hms, _, _, _, fin3, { e with p := e.p + 1 } :: r, q.1, q.2, oP, so, n1, n2, FS', rfl, rfl, ⟨by rw [ek]; exact D2, fun e' he' => ?_, fi.oP, ?_⟩, by rw [ek]; exact DA2, hq, .inl ?_, fun k hk => hf3 k (hfin' k hk), hs, frOf F6 (fun y => ?_), by rw [eT, eS]; exact N6, by rw [eT, eS]; exact nd5⟩
              · rcases List.mem_cons.mp he' with rfl | he'
                · exact ⟨ust_self, hent.2⟩
                · refine ⟨?_, (fi.ent e' (.tail _ he')).2⟩
                  rw [ust_ne fun e9 => ?_]
                  · exact (fi.ent e' (.tail _ he')).1
                  · have h0 : keysSE (e :: r) = keysSE r ++ [e.d.key] := by simp [keysSE]
                    rw [h0, List.nodup_append] at hnS
                    exact hnS.2.2 e'.d.key (by simp only [keysSE, List.mem_map, List.mem_reverse]; exact ⟨e', he', rfl⟩) e.d.key (.head _) e9
              · have e1 : (fun k => (ust st2 e.d.key (e.p + 1) k).isSome) = fun k => (st2 k).isSome := by
                  funext k
                  by_cases e9 : k = e.d.key
                  · subst e9; rw [ust_self, hent.1]; rfl
                  · rw [ust_ne e9]
                rw [e1]; exact fi.so
              · by_cases e9 : p.1 = e.d.key
                · rw [e9, ust_self]; simp
                · rw [ust_ne e9]; exact hp2
              · by_cases hy : y = Str.ofString "node" <;> simp [hy]
            | none =>
              have hsq : (sc e.d.key)[e.p]? = none := by rw [← hsc e.d hent.2, List.getElem?_map, ex]; rfl
              obtain ⟨D2, DB2⟩ := fi.D.pop db (keysSE_last e r) hent.1 hsq
              refine wrapN_stop (i := e.p) hh F2 N2 nd2 hwrap (by walk_at "UPD") (F2.keep _ _ a3) (by simp [ivals, ex]) fun ee h5 h6 F5 N5 nd5 hxx => ?_
              refine caughtHere (W := _ :: _ :: _ :: _ :: _ :: _ :: _ :: famSE r) (FS := FS') hA F5 B N5 nd5 (hF.slots hs) hxx (fun h7 FS7 hs7 F7 N7 nd7 => ?_)
              rw [show (refsSE (e :: r)).toArray = (refsSE r ++ [Value.ref e.u]).toArray from by simp [refsSE], show (intsSE (e :: r)).toArray = (intsSE r ++ [Value.int e.d.key e.kt]).toArray from by simp [intsSE]] at N7 nd7
              have hz5 : (intsSE r).length < 1000 := by simp [intsSE]; omega
              have hz6 : (refsSE r).length < 1000 := by simp [refsSE]; omega
              clear F5 N5 nd5 F2 N2 nd2
              walk_at "WALKS"
              rename Fr _ _ _ _ => F8
              rename News _ _ _ _ => N8
              rename Nod _ => nd8
              have hz7 : (kvSE (e :: r)).length ≤ sizeLine := by
                have := congrArg List.length (kvSE_keys (e :: r))
                rw [List.length_map, keysSE_len] at this
                rw [sizeLine_eq, this]; simp; omega
              have hoP := fi.oP
              have hwo : without (kvSE (e :: r)) e.d.key = kvSE r := kvSE_without hnS
              refine delD (knd := intKind _ _) (k := e.d.key) F8 N8 nd8 (by walk_at "UPDF") hoP (intKind_is _ _ _ _) (va_isSome (by rw [kvSE_keys]; simp [keysSE])) hz7 fun h9 o9 F9 N9 nd9 hd9 => ?_
              rw [hwo] at hd9
              change wpAny _ _ (deleteEach [] _) _ _ _
              clear F8 N8 nd8 F7 N7 nd7
              walk_at "WALKS"
              rename Fr _ _ _ _ => F10
              rename News _ _ _ _ => N10
              rename Nod _ => nd10
              have hkr : keysSE r = (keysSE (e :: r)).dropLast := by simp [keysSE]
              refine hQ7 _ _ ?_
              refine ⟨r.length, Nat.lt_succ_self _, _, _, e.d.key :: fin3, r, cur, ct, o9, so, n1 + 1, n2 + 1, FS7, rfl, rfl, ⟨by rw [hkr]; exact D2, fun e' he' => fi.ent e' (.tail _ he'), hd9, ?_⟩, by rw [hkr]; exact DB2, fun k hk => .tail _ (hf3 k hk), hs.trans hs7, F10, fun q hq => N10 q ?_, nodSub nd10 ?_⟩
              · have := fi.so
                rwa [show (e.d.key :: fin3).length + r.length = fin3.length + (e :: r).length from by simp; omega]
              · exact (List.Sublist.cons_cons _ (.cons_cons _ (.cons_cons _ (.cons_cons _ (.cons_cons _ (.cons _ (.cons _ (.refl _)))))))).subset hq
              · exact .cons_cons _ (.cons_cons _ (.cons_cons _ (.cons_cons _ (.cons_cons _ (.cons _ (.cons _ (.refl _)))))))
        · exact hQ8 _ _ (hQ6 _ _ hQC)
  · rintro m nw h tk ⟨st, fin, oP, so, n1, n2, FS', fi, hfin, hs, rfl, u, rfl⟩ nd2 F2 N2
    subst hm0
    replace F2 : Fr g L h _ := F2
    replace N2 : News g L h _ := N2
    walk_at "WALKS"
    refine hN _ _ FS' ⟨rankOf fin, fun d hd q hq => closed_rank fi.D.closed fi.D.nodF ?_ hq⟩ hs ((Out.of F2 N2 nd2).sub (fun q hq => .tail _ (.tail _ (.tail _ (.tail _ hq)))) (nodSub nd2 (.cons _ (.cons _ (.cons _ (.cons _ (.refl _)))))))
    obtain ⟨j, hj⟩ := List.getElem?_of_mem hd
    have hlt := (List.getElem?_eq_some_iff.mp hj).1
    exact hfin j d.key (by rw [hkeys]; exact hlt) (by rw [List.getElem?_map, hj]; rfl)

end
section
open PyProof.Rows.LCg PyProof.Rows.LCt PyProof.V PySem.Spec
section
variable {prog : Program} {w : World} {A : Around} {E : Value → Shared → Prop} {s : Shared} {env : Env} {g : Heap} {L : Addr} {m : Str → Option Value}
theorem newEnvCell {M : Model} {scope : Scope} {globals : Addr} {cl : List (Str × Addr)} {qual : Str} {outer : Env} {x : Str} {Q : Env → Shared → Prop}
    (hp : ∀ h, pushCells h scope.names = h.push { cls := .type "cell", data := .cell none }) (hc : ∀ k, cellsFrom k scope.names cl = (x, k) :: cl)
    (h : Q (newEnv scope s.heap.objs.size globals ((x, s.heap.objs.size + 1) :: cl) qual none .none (some outer) builtinsNs) { s with heap := (s.heap.push { cls := .type "dict", data := .dict #[] }).push { cls := .type "cell", data := .cell none } }) :
    wpAny M A (newFunctionEnv scope globals cl [] qual none .none (some outer)) Q E s := by
  simp only [newFunctionEnv, Option.isSome_some, if_true]
  refine wpAny_bind (wpAny_alloc ?_)
  refine wpAny_bind (wpAny_layCells _ (fun name kind cells => by cases hkc : kind == NameKind.cell <;> simp [hkc]) _ _ _ _ ?_)
  rw [hc, hp, Heap.size_push]
  simp only [List.forIn_nil]
  exact wpAny_bind (wpAny_pure (wpAny_pure h))
def TurnC (prog : Program) (w : World) (A : Around) (g : Heap) (L : Addr) (m : Str → Option Value) (cenv : Addr → Addr → Env) (ct : Expr) (elt : Expr) (s : Shared) (P : Nat → Value → Prop) (J : Nat → List Value → List (Addr × Obj) → Prop) : Prop :=
  ∀ i v ys nw I oI C oC c oc D h tk (E' : Value → Shared → Prop), P i v → J i ys nw → oc.data = .cell (some v) → Fr g L h m → News g L h ((I, oI) :: (C, oC) :: (c, oc) :: (D, listOf ys.toArray ys.length) :: nw) → Nod ((I, oI) :: (C, oC) :: (c, oc) :: (D, listOf ys.toArray ys.length) :: nw) →
    wpAny (model prog w) A (isTrue ct (cenv C c) (eval ct (cenv C c))) (fun ok s' => if ok = true then
        wpAny (model prog w) A (eval elt (cenv C c)) (fun y => End2 g L m { s with heap := h, toks := tk } I oI C oC c oc D (listOf ys.toArray ys.length) (J (i + 1) (ys ++ [y]))) E' s'
      else End2 g L m { s with heap := h, toks := tk } I oI C oC c oc D (listOf ys.toArray ys.length) (J (i + 1) ys) s') E' { s with heap := h, toks := tk }
inductive CompAtC (prog : Program) (w : World) (A : Around) (g : Heap) (L : Addr) (m : Str → Option Value) (cenv : Addr → Addr → Env) (ct elt : Expr) (Fin : Addr → Addr → Shared → Prop) (it : Value) (s₂ : Shared) : Prop
  | mk (s₁ : Shared) (n : Nat) (P : Nat → Value → Prop) (S : List (Addr × Obj) → Prop) (news : List (Addr × Obj)) (J : Nat → List Value → List (Addr × Obj) → Prop) (a0 : Src prog w A g s₁ n P S it s₂) (a1 : Fr g L s₁.heap m) (a2 : News g L s₁.heap news) (a3 : Nod news) (a4 : J 0 [] news) (a5 : (∀ i ys nw, J i ys nw → S nw)) (a6 : (∀ i ys nw, J i ys nw → ys.length ≤ 100000)) (a7 : TurnC prog w A g L m cenv ct elt s₁ P J) (a8 : FinAt g L m s₁ (J n) Fin) : CompAtC prog w A g L m cenv ct elt Fin it s₂
inductive LoopC (g : Heap) (L : Addr) (m : Str → Option Value) (hp0 H1 H2 : Heap) (gn0 : Array GenState) (dr0 : Drawn) (os0 : OsState) (oC : Obj) (n : Nat) (St : Nat → Heap → Prop) (J : Nat → List Value → List (Addr × Obj) → Prop) (k : Nat) (s' : Shared) : Prop
  | mk (h' : _) (tk : _) (i : _) (ys : _) (nw : _) (oc : _) (v₀ : _) (oI : _) (a0 : s' = { heap := h', gens := gn0, drawn := dr0, toks := tk, os := os0 }) (a1 : i ≤ n) (a2 : k = n + 1 - i) (a3 : St i h') (a4 : Fr g L h' m) (a5 : oc.data = .cell v₀) (a6 : News g L h' ((hp0.objs.size, oI) :: (H2.objs.size, oC) :: (H2.objs.size + 1, oc) :: (H1.objs.size, listOf ys.toArray ys.length) :: nw)) (a7 : Nod ((hp0.objs.size, oI) :: (H2.objs.size, oC) :: (H2.objs.size + 1, oc) :: (H1.objs.size, listOf ys.toArray ys.length) :: nw)) (a8 : J i ys nw) : LoopC g L m hp0 H1 H2 gn0 dr0 os0 oC n St J k s'
theorem compC {elt iter ct : Expr} {x : Str} {px : Pos} {scope : Scope} {cl : List (Str × Addr)} {pos : Pos} {use : Option (Value → Sem Unit)} {Q : Value → Shared → Prop} (F₀ : Fr g L s.heap m)
    (hclos : closureFor scope env = pure cl) (hkind : scope.kind = .function) (hnames : ∀ y ∈ scope.names, y.2 = .local → scope.names.lookup y.1 = some .local)
    (hp : ∀ h, pushCells h scope.names = h.push { cls := .type "cell", data := .cell none }) (hc : ∀ k, cellsFrom k scope.names cl = (x, k) :: cl)
    (hx : ∀ C c, (compEnvC scope ((x, c) :: cl) C env).kindOf x = some .cell)
    (h : wpAny (model prog w) A (eval iter env) (fun xv s₁ => wpAny (model prog w) A (pyIter xv)
      (CompAtC prog w A g L m (fun C c => compEnvC scope ((x, c) :: cl) C env) ct elt fun D C s' => compPost (model prog w) A E use Q (.ref D) C (.ok .next) s') E s₁) E s)
    (hs : ∀ x, foldedSetIterable iter env x = pure x := by intro _; rfl) :
    wpAny (model prog w) A (comprehension (.ListComp elt [⟨.Name x px, iter, [ct], 0⟩] scope pos) scope env (firstIterPos [⟨.Name x px, iter, [ct], 0⟩] pos) (newList []) false (eval iter env) use) Q E s := by
  refine wpAny_comprehension_free rfl hs hclos hkind hnames (wpAny_mono h (fun xv s₁ h₁ => wpAny_mono h₁ (fun it s₂ h₂ => ?_) fun _ _ e => e) fun _ _ e => e)
  obtain ⟨s₀, n, P, S, news, J, ⟨I, fp, St, oI, rfl, rfl, rfl, W, hob, hSt, hst, hfp⟩, F, N, nd, h0, hS, hlen, turn, fin⟩ := h₂
  obtain ⟨hp0, gn0, dr0, tk0, os0⟩ := s₀
  dsimp only at *
  have hI : g.get? hp0.objs.size = none := by
    cases e : g.get? hp0.objs.size with
    | none => rfl
    | some o => exact absurd (Heap.lt_size (F.keep _ _ e)) (Nat.lt_irrefl _)
  have hIL : L ≠ hp0.objs.size := Nat.ne_of_lt F.ns.lt
  refine wpAny_newObj_type (newEnvCell hp hc ?_)
  dsimp only
  generalize hH1 : hp0.push oI = H1 at *
  generalize hH2 : H1.push { cls := .type "list", dict := none, data := .seq ([] : List Value).toArray } = H2
  generalize hH3 : H2.push { cls := .type "dict", data := .dict #[] } = H3
  generalize hH4 : H3.push { cls := .type "cell", data := .cell none } = h₁
  have z1 : H1.objs.size = hp0.objs.size + 1 := by rw [← hH1, Heap.size_push]
  have z2 : H2.objs.size = H1.objs.size + 1 := by rw [← hH2, Heap.size_push]
  have z3 : H3.objs.size = H2.objs.size + 1 := by rw [← hH3, Heap.size_push]
  have up1 : ∀ b o, hp0.get? b = some o → H1.get? b = some o := fun b o e => hH1 ▸ Heap.get?_push_of_some _ e
  have up2 : ∀ b o, H1.get? b = some o → H2.get? b = some o := fun b o e => hH2 ▸ Heap.get?_push_of_some _ e
  have up3 : ∀ b o, H2.get? b = some o → H3.get? b = some o := fun b o e => hH3 ▸ Heap.get?_push_of_some _ e
  have up4 : ∀ b o, H3.get? b = some o → h₁.get? b = some o := fun b o e => hH4 ▸ Heap.get?_push_of_some _ e
  have fresh : ∀ a, hp0.objs.size ≤ a → g.get? a = none := fun a ha => by
    cases e : g.get? a with
    | none => rfl
    | some o => exact absurd (Heap.lt_size (F.keep _ _ e)) (Nat.not_lt.mpr ha)
  have hLlt : L < hp0.objs.size := F.ns.lt
  obtain ⟨oI0, hoI0⟩ := hob _ _ hst
  have heC : h₁.get? H2.objs.size = some { cls := .type "dict", data := .dict #[] } := up4 _ _ (hH3 ▸ Heap.get?_push_size _ rfl)
  have hec : h₁.get? (H2.objs.size + 1) = some { cls := .type "cell", data := .cell none } := by rw [← z3, ← hH4]; exact Heap.get?_push_size _ rfl
  have hacc : h₁.get? H1.objs.size = some (lst []) := up4 _ _ (up3 _ _ (hH2 ▸ Heap.get?_push_size _ rfl))
  have hns : h₁.Ns H2.objs.size fun _ => none := by
    have := Heap.Ns.new H2 (.type "dict")
    rw [hH3] at this
    exact this.keeps fun b o e => up4 b o e
  obtain ⟨oC, heC', hoC⟩ := ns_obj hns
  have hst₁ : St 0 h₁ := W.frame _ _ _ hst fun b _ o e => up4 _ _ (up3 _ _ (up2 _ _ e))
  have N0 : News g L h₁ ((hp0.objs.size, oI0) :: (H2.objs.size, oC) :: (H2.objs.size + 1, { cls := .type "cell", data := .cell none }) :: (H1.objs.size, lst []) :: news) := fun p hp => by
    rcases List.mem_cons.mp hp with rfl | hp
    · exact ⟨up4 _ _ (up3 _ _ (up2 _ _ hoI0)), Ne.symm hIL, hI⟩
    · rcases List.mem_cons.mp hp with rfl | hp
      · exact ⟨heC', Ne.symm (Nat.ne_of_lt (Nat.lt_trans hLlt (by omega))), fresh _ (by omega)⟩
      · rcases List.mem_cons.mp hp with rfl | hp
        · exact ⟨hec, Ne.symm (Nat.ne_of_lt (Nat.lt_trans hLlt (by omega))), fresh _ (by omega)⟩
        · rcases List.mem_cons.mp hp with rfl | hp
          · exact ⟨hacc, Ne.symm (Nat.ne_of_lt (Nat.lt_trans hLlt (by omega))), fresh _ (by omega)⟩
          · exact ⟨up4 _ _ (up3 _ _ (up2 _ _ (up1 _ _ (N p hp).1))), (N p hp).2⟩
  have nd0 : Nod ((hp0.objs.size, oI0) :: (H2.objs.size, oC) :: (H2.objs.size + 1, ({ cls := .type "cell", data := .cell none } : Obj)) :: (H1.objs.size, lst []) :: news) := by
    have hl : ∀ p ∈ news, p.1 < hp0.objs.size := fun p hp => Heap.lt_size (N p hp).1
    refine nod_cons.mpr ⟨fun q hq => ?_, nodOff3.mpr ⟨Off3.of fun p hp => ⟨Nat.ne_of_lt (Nat.lt_trans (hl p hp) (by omega)), Nat.ne_of_lt (Nat.lt_trans (hl p hp) (by omega)), Nat.ne_of_lt (Nat.lt_trans (hl p hp) (by omega))⟩, ⟨?_, ?_, ?_⟩, nd⟩⟩
    · rcases List.mem_cons.mp hq with rfl | hq
      · exact Nat.ne_of_gt (show hp0.objs.size < H2.objs.size by omega)
      · rcases List.mem_cons.mp hq with rfl | hq
        · exact Nat.ne_of_gt (show hp0.objs.size < H2.objs.size + 1 by omega)
        · rcases List.mem_cons.mp hq with rfl | hq
          · exact Nat.ne_of_gt (show hp0.objs.size < H1.objs.size by omega)
          · exact Nat.ne_of_lt (hl q hq)
    all_goals (intro e; omega)
  have loop : ∀ s₃ : Shared, s₃ = { heap := h₁, gens := gn0, drawn := dr0, toks := tk0, os := os0 } →
      codeAny (model prog w) A (.compLoop (.ListComp elt [⟨.Name x px, iter, [ct], 0⟩] scope pos) 0 (.ref hp0.objs.size) (.ref H1.objs.size) (compEnvC scope ((x, H2.objs.size + 1) :: cl) H2.objs.size env))
        (compPost (model prog w) A E use Q (.ref H1.objs.size) H2.objs.size) s₃ := by
    rintro s₃ rfl
    refine codeAny_compLoop_tests (LoopC g L m hp0 H1 H2 gn0 dr0 os0 oC n St J) ?_ (n + 1)
      ⟨h₁, _, 0, [], news, _, none, oI0, rfl, Nat.zero_le _, rfl, hst₁, F.keeps (fun b o e => up4 _ _ (up3 _ _ (up2 _ _ (up1 _ _ e)))), rfl, N0, nd0, h0⟩
    rintro k s' ⟨h', tk, i, ys, nw, oc, v₀, oI', rfl, hi, rfl, hst', F', hoc, N', nd', hJ⟩
    have hnd := nod_cons.mp nd'
    by_cases hlt : i < n
    · refine W.item i _ _ _ hlt hst' fun v h₂ tk₂ hPv hst₂ hk₂ => ?_
      have F₂ := fr_but F' hk₂ hIL hI
      have N₂ := news_but (fun p hp => N' p (.tail _ hp)) hk₂ hnd.1
      obtain ⟨oI2, hoI2⟩ := hob _ _ hst₂
      have hndC := nod_cons.mp hnd.2
      have hndc := nod_cons.mp hndC.2
      have hCm := N₂ (H2.objs.size + 1, oc) (.tail _ (.head _))
      have hCI : H2.objs.size + 1 ≠ hp0.objs.size := hnd.1 (H2.objs.size + 1, oc) (.tail _ (.head _))
      have hCC : H2.objs.size + 1 ≠ H2.objs.size := hndC.1 (H2.objs.size + 1, oc) (.head _)
      refine wpAny_assign_Name (wpAny_storeName_cell (by simp [compEnvC, relabel, hkind]) (hx _ _) (by simp [compEnvC]) ⟨oc, hCm.1, hoc⟩ fun h₃ hcell₃ hs₃ => ?_)
      obtain ⟨oc₃, hec₃, hoc₃⟩ := hcell₃
      have F₃ : Fr g L h₃ m := F₂.change hs₃ hCm.2.1 hCm.2.2
      have hst₃ : St (i + 1) h₃ := by
        refine hSt _ h₂ h₃ oI2 nw hst₂ hoI2 (hs₃.extBut _ _ (Ne.symm hCI) hoI2) F₃.keep (fun p hp => ?_) (hS _ _ _ hJ)
        exact hs₃.extBut _ _ (hndc.1 p (.tail _ hp)) (N₂ p (.tail _ (.tail _ (.tail _ hp)))).1
      have N₃ : News g L h₃ ((hp0.objs.size, oI2) :: (H2.objs.size, oC) :: (H2.objs.size + 1, oc₃) :: (H1.objs.size, listOf ys.toArray ys.length) :: nw) := fun p hp => by
        rcases List.mem_cons.mp hp with rfl | hp
        · exact ⟨hs₃.extBut _ _ (Ne.symm hCI) hoI2, Ne.symm hIL, hI⟩
        · rcases List.mem_cons.mp hp with rfl | hp
          · have q := N₂ (H2.objs.size, oC) (.head _)
            exact ⟨hs₃.extBut _ _ (Ne.symm hCC) q.1, q.2⟩
          · rcases List.mem_cons.mp hp with rfl | hp
            · exact ⟨hec₃, hCm.2⟩
            · have q := N₂ p (.tail _ (.tail _ hp))
              exact ⟨hs₃.extBut _ _ (hndc.1 p hp) q.1, q.2⟩
      have nd₃ : Nod ((hp0.objs.size, oI2) :: (H2.objs.size, oC) :: (H2.objs.size + 1, oc₃) :: (H1.objs.size, listOf ys.toArray ys.length) :: nw) := nd'.of_map rfl
      refine wpAny_tests_one (wpAny_mono (turn i v ys nw _ oI2 _ oC _ oc₃ _ h₃ _ _ hPv hJ hoc₃ F₃ N₃ nd₃) (fun ok s₄ h₄ => ?_) fun _ _ e => e)
      cases ok with
      | true =>
        simp only [if_true] at h₄ ⊢
        refine wpAny_mono h₄ (fun z s₅ h₅ => ?_) fun _ _ e => e
        obtain ⟨h₄, tk₄, nw₄, rfl, F₄, N₄, nd₄, hK₄⟩ := h₅
        have hD := N₄ (H1.objs.size, listOf ys.toArray ys.length) (.tail _ (.tail _ (.tail _ (.head _))))
        have hst₄ : St (i + 1) h₄ := hSt _ h₃ h₄ oI2 nw₄ hst₃ (N₃ _ (.head _)).1 (N₄ _ (.head _)).1 F₄.keep (fun p hp => (N₄ p (.tail _ (.tail _ (.tail _ (.tail _ hp))))).1) (hS _ _ _ hK₄)
        have hndD := nod_cons.mp nd₄
        have hndI := nod_cons.mp hndD.2
        have hndC := nod_cons.mp hndI.2
        have hndL := nod_cons.mp hndC.2
        refine append_at (hsz := by have := hlen _ _ _ hJ; rw [sizeLine_eq, List.size_toArray]; omega) hD.1 fun h₅ hs₅ hD₅ => ?_
        refine ⟨n + 1 - (i + 1), by omega, h₅, tk₄, i + 1, ys ++ [z], nw₄, oc₃, _, oI2, rfl, hlt, rfl, ?_, F₄.change hs₅ hD.2.1 hD.2.2, hoc₃, ?_, nd₄.of_map rfl, hK₄⟩
        · refine hSt _ h₄ h₅ oI2 nw₄ hst₄ (N₄ _ (.head _)).1 (hs₅.extBut _ _ (fun e => hndD.1 (H1.objs.size, listOf ys.toArray ys.length) (.tail _ (.tail _ (.head _))) e.symm) (N₄ _ (.head _)).1) (F₄.change hs₅ hD.2.1 hD.2.2).keep (fun p hp => ?_) (hS _ _ _ hK₄)
          exact hs₅.extBut _ _ (hndL.1 p hp) (N₄ p (.tail _ (.tail _ (.tail _ (.tail _ hp))))).1
        · intro p hp
          rcases List.mem_cons.mp hp with rfl | hp
          · have q := N₄ (hp0.objs.size, oI2) (.head _)
            exact ⟨hs₅.extBut _ _ (fun e => hndD.1 (H1.objs.size, listOf ys.toArray ys.length) (.tail _ (.tail _ (.head _))) e.symm) q.1, q.2⟩
          · rcases List.mem_cons.mp hp with rfl | hp
            · have q := N₄ (H2.objs.size, oC) (.tail _ (.head _))
              exact ⟨hs₅.extBut _ _ (fun e => hndI.1 (H1.objs.size, listOf ys.toArray ys.length) (.tail _ (.head _)) e.symm) q.1, q.2⟩
            · rcases List.mem_cons.mp hp with rfl | hp
              · have q := N₄ (H2.objs.size + 1, oc₃) (.tail _ (.tail _ (.head _)))
                exact ⟨hs₅.extBut _ _ (fun e => hndC.1 (H1.objs.size, listOf ys.toArray ys.length) (.head _) e.symm) q.1, q.2⟩
              · rcases List.mem_cons.mp hp with rfl | hp
                · exact ⟨hD₅.trans (congrArg some (lst_snoc ys z)), hD.2⟩
                · have q := N₄ p (.tail _ (.tail _ (.tail _ (.tail _ hp))))
                  exact ⟨hs₅.extBut _ _ (hndL.1 p hp) q.1, q.2⟩
      | false =>
        simp only [Bool.false_eq_true, if_false] at h₄ ⊢
        obtain ⟨h₄, tk₄, nw₄, rfl, F₄, N₄, nd₄, hK₄⟩ := h₄
        have hst₄ : St (i + 1) h₄ := hSt _ h₃ h₄ oI2 nw₄ hst₃ (N₃ _ (.head _)).1 (N₄ _ (.head _)).1 F₄.keep (fun p hp => (N₄ p (.tail _ (.tail _ (.tail _ (.tail _ hp))))).1) (hS _ _ _ hK₄)
        exact ⟨n + 1 - (i + 1), by omega, h₄, tk₄, i + 1, ys, nw₄, oc₃, _, oI2, rfl, hlt, rfl, hst₄, F₄, hoc₃, N₄, nd₄, hK₄⟩
    · obtain rfl : i = n := Nat.le_antisymm hi (Nat.not_lt.mp hlt)
      refine W.done _ _ _ hst' fun h₂ tk₂ hk₂ => ?_
      have F₂ := fr_but F' hk₂ hIL hI
      have N₂ := news_but (fun p hp => N' p (.tail _ hp)) hk₂ hnd.1
      have sl : ((H2.objs.size, oC) :: (H1.objs.size, listOf ys.toArray ys.length) :: nw).Sublist ((H2.objs.size, oC) :: (H2.objs.size + 1, oc) :: (H1.objs.size, listOf ys.toArray ys.length) :: nw) := .cons_cons _ (.cons _ (.refl _))
      exact fin _ _ oC _ h₂ tk₂ ys nw hJ hoC F₂ (newsSub N₂ fun q hq => sl.subset hq) (nodSub hnd.2 sl)
  exact codeAny_compStart_list (loop _ rfl) (W.self 0 _ _ _ hst₁ (loop _ rfl))
theorem assignC {elt iter ct : Expr} {x z : Str} {px pz : Pos} {scope : Scope} {cl : List (Str × Addr)} {pos spos : Pos} {Q : Flow → Shared → Prop} (F₀ : Fr g L s.heap m)
    (hsw : swapsWith (.ListComp elt [⟨.Name x px, iter, [ct], 0⟩] scope pos) (some (.Name z pz)) spos.line env = pure true)
    (hclos : closureFor scope env = pure cl) (hkind : scope.kind = .function) (hnames : ∀ y ∈ scope.names, y.2 = .local → scope.names.lookup y.1 = some .local)
    (hp : ∀ h, pushCells h scope.names = h.push { cls := .type "cell", data := .cell none }) (hc : ∀ k, cellsFrom k scope.names cl = (x, k) :: cl)
    (hx : ∀ C c, (compEnvC scope ((x, c) :: cl) C env).kindOf x = some .cell)
    (h : wpAny (model prog w) A (eval iter env) (fun xv s₁ => wpAny (model prog w) A (pyIter xv)
      (CompAtC prog w A g L m (fun C c => compEnvC scope ((x, c) :: cl) C env) ct elt fun D C s' => compPost (model prog w) A E (some (assign (.Name z pz) env)) (fun _ s' => Q .next s') (.ref D) C (.ok .next) s') E s₁) E s)
    (hs : ∀ x, foldedSetIterable iter env x = pure x := by intro _; rfl) :
    wpAny (model prog w) A (exec (.Assign [.Name z pz] (.ListComp elt [⟨.Name x px, iter, [ct], 0⟩] scope pos) spos) env) Q E s := by
  rw [exec_Assign_Name_used _ _ _ _ hsw]
  refine wpAny_bind (wpAny_standAt (wpAny_bind ?_))
  show wpAny _ A (do let _ ← comprehension (.ListComp elt [⟨.Name x px, iter, [ct], 0⟩] scope pos) scope env _ (newList []) false (eval iter env) (some (assign (.Name z pz) env))) _ _ s
  exact wpAny_bind (wpAny_mono (compC (use := some (assign (.Name z pz) env)) (Q := fun _ s' => Q .next s') F₀ hclos hkind hnames hp hc hx h hs) (fun _ s' hq => wpAny_pure (wpAny_pure hq)) fun _ _ e => e)
end

end
section
local macro_rules | `(tactic| walk_at "no goal 0") => `(tactic| fail)
theorem reset_PR : True := by
  w_top off
  trivial
local macro_rules | `(tactic| walk_at "eval ListComp") => `(tactic| refine Halt.go ?_)
local macro_rules | `(tactic| walk_at "getMethod ref") => `(tactic| ((with_reducible show wpAny _ _ (getMethod _ (Str.ofString "values") _) _ _ _); k_dflt (refine valsMeth (by walk_at "HGET") (by assumption) ?_)))
local macro_rules | `(tactic| walk_at "call builtin:dict.values") => `(tactic| k_dflt ((rename Nod _ => nd9); refine valsCall (by assumption) (by assumption) nd9 (by assumption) (by walk_at "HGET") (by assumption) ?_; intro V' h' F' N' nd'; clear nd9))
local macro_rules | `(tactic| walk_at "eval Name") => `(tactic| (name_kind "local"; k_dflt (refine cmpLocal (by assumption) (by walk_at "MEM") (by assumption) (by assumption) ?_)))
theorem outDrop2 {g h : Heap} {a b : Addr × Obj} {r : List (Addr × Obj)} (O : Out g (a :: b :: r) h) : Out g (a :: r) h :=
  O.sub (fun q hq => (List.Sublist.cons_cons _ (.cons _ (.refl _))).subset hq) (nodSub O.nod (.cons_cons _ (.cons _ (.refl _))))
theorem outDrop1 {g h : Heap} {a : Addr × Obj} {r : List (Addr × Obj)} (O : Out g (a :: r) h) : Out g r h :=
  O.sub (fun q hq => .tail _ hq) (nodSub O.nod (.cons _ (.refl _)))
theorem prepareSpec {w : World} {A : Around} {s : Shared} {x dx D : Addr} {d : SD} {np nf : Int} {oD : Obj} {nodes : List Nd} {sc : Int → List Int} {outer : List Env} {FS : List (Addr × Obj)} {Q E : Value → Shared → Prop}
    (hD : oD.IsDictOf (intKind Challenge.pw_ij0208_01 w) (kvsOf nodes)) (hlo : (D == sysModules) = false)
    (hsc : ∀ d ∈ nodes, d.succ.map (·.1) = sc d.key) (hins : ∀ d ∈ nodes, ∀ q ∈ sc d.key, ∃ d' ∈ nodes, d'.key = q) (hlen : nodes.length ≤ 100)
    (N : ∀ p ∈ (x, sobj dx) :: (dx, sdict d (.ref D) .none np nf) :: (D, oD) :: (famOf nodes ++ FS), s.heap.get? p.1 = some p.2)
    (B : Bs w (hideAll s.heap (((x, sobj dx) :: (dx, sdict d (.ref D) .none np nf) :: (D, oD) :: (famOf nodes ++ FS)).map (·.1))))
    (nd : Nod ((x, sobj dx) :: (dx, sdict d (.ref D) .none np nf) :: (D, oD) :: (famOf nodes ++ FS)))
    (hA : A.frames = some outer) (hF : FrOf outer FS) (hroom : A.depth < 418) (hu : A.units < 26) (hh : A.handled = none)
    (hR : ∀ e base a0 R d' items n' h' t' FS', (∃ v, Relation.TransGen (fun a b => b ∈ sc a) v v) → items.map (·.1) = (nodes.filter fun d => d.np = 0).map Nd.key →
      (hideAll s.heap (((x, sobj dx) :: (dx, sdict d (.ref D) .none np nf) :: (D, oD) :: (famOf nodes ++ FS)).map (·.1))).StaysIn base → Heap.FlyingW base outer e (.ref 99) a0 h' → SlotEq FS FS' →
      (∀ p ∈ (R, listOf (ivals items).toArray n') :: (x, sobj dx) :: (dx, sdict d' (.ref D) (.ref R) np nf) :: (D, oD) :: famOf nodes, base.get? p.1 = some p.2) →
      Out (hideAll s.heap (((x, sobj dx) :: (dx, sdict d (.ref D) .none np nf) :: (D, oD) :: (famOf nodes ++ FS)).map (·.1))) ((R, listOf (ivals items).toArray n') :: (x, sobj dx) :: (dx, sdict d' (.ref D) (.ref R) np nf) :: (D, oD) :: (famOf nodes ++ FS')) h' →
      E (.ref e) { s with heap := h', toks := t' })
    (hN : ∀ R d' items n' h' t' FS', (∃ rank : Int → Nat, ∀ d ∈ nodes, ∀ q ∈ sc d.key, rank q < rank d.key) → items.map (·.1) = (nodes.filter fun d => d.np = 0).map Nd.key → SlotEq FS FS' →
      Out (hideAll s.heap (((x, sobj dx) :: (dx, sdict d (.ref D) .none np nf) :: (D, oD) :: (famOf nodes ++ FS)).map (·.1))) ((R, listOf (ivals items).toArray n') :: (x, sobj dx) :: (dx, sdict d' (.ref D) (.ref R) np nf) :: (D, oD) :: (famOf nodes ++ FS')) h' →
      Q .none { s with heap := h', toks := t' }) :
    wpAny (model PySem.Challenge.pw_ij0208_01 w) A (call (.ref 136) [.ref x]) Q E s := by
  refine wpAny_call (enter (f := 136) _ rfl B N (by kernel_rfl) (Nat.lt_trans hroom (by decide)) (binds := [(Str.ofString "self", .ref x)]) (.of_eq rfl) (locs (by rfl)) ?_)
  intro L h₁ F N hlt
  generalize (hideAll s.heap _) = g at B F N hR hN
  walk_at "WALKS"
  rename News _ _ _ _ => N1
  rename Fr _ _ _ _ => F1
  refine Halt.go ?_
  rw [eval_ListComp]
  refine compT (use := none) F1 (closureFor_none (by decide)) (by decide) rfl (by decide) (by decide) ?_
  walk_at "WALKS"
  rename News _ _ _ _ => N2
  rename Fr _ _ _ _ => F2
  rename Nod _ => nd2
  refine Halt.go ?_
  rename_i V' h'
  refine srcVals (g := g) hh (valsView N2 (.head _)) hD (N2 (D, oD) (by simp)).1 fun it s₂ src => ?_
  refine ⟨_, _, _, _, _, fun i ys nw => nw = (V', valsObj D) :: (x, sobj dx) :: (dx, sdict d (.ref D) .none np nf) :: (D, oD) :: (famOf nodes ++ FS) ∧ ∃ items : List (Int × Nat), ys = ivals items ∧ items.length ≤ i ∧ items.map (·.1) = ((nodes.take i).filter fun d => d.np = 0).map Nd.key,
    src, by rw [sizeLine_eq]; simp; omega, F2, N2, nd2, ⟨rfl, [], by simp⟩, fun i ys nw hJ => by rw [hJ.1]; exact .inl (by simp), ?_, finEval fun R' h3 tk3 ys nw hJ F3 N3 nd3 => ?_⟩
  · rintro i v ys nw I oI C oC D' m₂ h3 tk3 E' ⟨k, hk⟩ ⟨rfl, items, rfl, hil, hit⟩ hC hv F3 N3 nd3
    obtain ⟨dj, hj, hkv⟩ : ∃ dj, nodes[i]? = some dj ∧ v = .ref dj.a := by
      simp only [kvsOf, List.getElem?_map, Option.map_eq_some_iff] at hk
      obtain ⟨dj, hj, e⟩ := hk
      exact ⟨dj, hj, (congrArg (·.2) e).symm⟩
    subst hkv
    have a1 := (N3 (dj.a, dj.node) (by have := mem_fam_a hj; simp [this])).1
    have a2 := (N3 (dj.da, dictOf [] 0) (by have := mem_fam_d hj; simp [this])).1
    walk_at "WALKS"
    · have hz : decide (dj.np = 0) = true := by rename dj.np = 0 => hz; simpa using hz
      refine ⟨_, _, _, rfl, F3, N3, nd3, rfl, items ++ [(dj.key, dj.nt)], by simp, by simp; omega, ?_⟩
      rw [List.take_add_one, hj, List.map_append, hit, List.filter_append, List.map_append]
      simp [hz, -decide_eq_true_eq]
    · have hz : decide (dj.np = 0) = false := by rename ¬ dj.np = 0 => hz; simpa using hz
      refine ⟨_, _, _, rfl, F3, N3, nd3, rfl, items, rfl, by omega, ?_⟩
      rw [List.take_add_one, hj, List.filter_append, List.map_append, ← hit]
      simp [hz, -decide_eq_false_iff_not]
  · obtain ⟨rfl, items, rfl, hil, hit⟩ := hJ
    rw [kvsOf, List.length_map, List.take_length] at hit
    clear N2 nd2 F2 F1 N1
    clear src
    walk_at "WALKS"
    rename News _ _ _ _ => N4
    rename Fr _ _ _ _ => F4
    rename Nod _ => nd4
    obtain ⟨oL, hoL, hoLd⟩ := frObj F4
    replace N4 : News g L _ (([(R', _), (V', _), (x, _), (dx, _), (D, _)] ++ famOf nodes) ++ ([] ++ FS)) := N4
    replace nd4 : Nod (([(R', _), (V', _), (x, _), (dx, _), (D, _)] ++ famOf nodes) ++ ([] ++ FS)) := nd4
    have hpre := preN (oL := oL) N4 nd4
    have p1 := hpre _ (.tail _ (.tail _ (.head _)))
    have p2 := hpre _ (.tail _ (.tail _ (.tail _ (.head _))))
    have p3 := hpre _ (.tail _ (.tail _ (.tail _ (.tail _ (.head _)))))
    refine findCycle (outer := _ :: outer) (FS := (L, oL) :: FS) hD hlo p1 p2 p3 (fun p hp => hpre p (List.mem_append_right _ hp)) hsc hins hlen (haveN N4 hoL) (bsHideN F4 B N4) (nodN N4 nd4) (Around.frames_deeper hA)
      ⟨show ScopeKind.function ≠ ScopeKind.module by decide, rfl, hoLd, hF⟩ (by simp only [depth_deeper, units_deeper]; omega) (by simp only [depth_deeper, units_deeper]; omega) hh ?_ ?_
    · rintro C items5 n5 h5 t5 FS5 hne hsz5 hring hs5 O5
      obtain ⟨oL', FS5, rfl, hsl, hs5⟩ := slotCons hs5
      obtain ⟨F5, N5, nd5⟩ := backN (W' := [(C, _)]) F4 N4 nd4 hoL O5 hsl
      obtain ⟨N6, nd6⟩ := frontN N5 nd5
      clear N5 nd5
      have hsz6 : (items5.toArray.size : Int) < 2 ^ 63 := by simp; omega
      have hem : items5.toArray.isEmpty = false := by cases items5 with | nil => exact absurd rfl hne | cons _ _ => rfl
      replace N6 : News g L _ ((C, _) :: (R', _) :: (V', _) :: (x, _) :: (dx, _) :: (D, _) :: (famOf nodes ++ FS5)) := N6
      replace nd6 : Nod ((C, _) :: (R', _) :: (V', _) :: (x, _) :: (dx, _) :: (D, _) :: (famOf nodes ++ FS5)) := nd6
      clear N4 nd4 F4
      walk_at "WALKS"
      · exfalso; rename items5.toArray.isEmpty = true => hx; rw [hem] at hx; cases hx
      · rename Fr _ _ _ _ => F7
        rename News _ _ _ _ => N7
        refine Halt.go ?_
        refine raiseCyc F7 B hh ?_
        walk_at "WALKS"
        rename Heap.MadeExcOf _ _ _ _ _ => hx
        refine leaveMade (W := (C, _) :: (R', _) :: (V', _) :: (x, _) :: (dx, _) :: (D, _) :: famOf nodes) (FS := FS5) hA F7 N7 nd6 (hF.slots hs5) hx fun base h9 t9 FS9 hb1 hb2 hfl hs9 O9 => ?_
        replace O9 : Out g ((C, _) :: (R', _) :: (V', _) :: (x, _) :: (dx, _) :: (D, _) :: (famOf nodes ++ FS9)) h9 := O9
        exact hR _ base _ R' _ items _ _ _ FS9 hring hit hb1 hfl (hs5.trans hs9) (fun p hp => hb2 p ((List.Sublist.cons _ (.cons_cons _ (.cons _ (.refl _)))).subset hp)) (outDrop2 (outDrop1 O9))
    · rintro h5 t5 FS5 hrank hs5 O5
      obtain ⟨oL', FS5, rfl, hsl, hs5⟩ := slotCons hs5
      obtain ⟨F5, N5, nd5⟩ := backN (W' := []) F4 N4 nd4 hoL O5 hsl
      clear N4 nd4 F4
      walk_at "WALKS"
      rename News _ _ _ _ => N6
      rename Fr _ _ _ _ => F6
      replace N6 : News g L _ ((R', _) :: (V', _) :: (x, _) :: (dx, _) :: (D, _) :: (famOf nodes ++ FS5)) := N6
      exact hN R' _ items _ _ _ FS5 hrank hit hs5 (outDrop2 (Out.of F6 N6 nd5))

end
section
theorem reset_RG : True := by
  w_top off
  trivial
theorem ringSpec {w : World} {A : Around} {s : Shared} {x dx D : Addr} {d : SD} {np nf : Int} {oD : Obj} {nodes : List Nd} {sc : Int → List Int} {outer : List Env} {FS : List (Addr × Obj)} {Q E : Value → Shared → Prop}
    (hD : oD.IsDictOf (intKind Challenge.pw_ij0208_01 w) (kvsOf nodes)) (hlo : (D == sysModules) = false)
    (hsc : ∀ d ∈ nodes, d.succ.map (·.1) = sc d.key) (hins : ∀ d ∈ nodes, ∀ q ∈ sc d.key, ∃ d' ∈ nodes, d'.key = q) (hlen : nodes.length ≤ 100)
    (N : ∀ p ∈ (x, sobj dx) :: (dx, sdict d (.ref D) .none np nf) :: (D, oD) :: (famOf nodes ++ FS), s.heap.get? p.1 = some p.2)
    (B : Bs w (hideAll s.heap (((x, sobj dx) :: (dx, sdict d (.ref D) .none np nf) :: (D, oD) :: (famOf nodes ++ FS)).map (·.1))))
    (nd : Nod ((x, sobj dx) :: (dx, sdict d (.ref D) .none np nf) :: (D, oD) :: (famOf nodes ++ FS)))
    (hA : A.frames = some outer) (hF : FrOf outer FS) (hroom : A.depth < 416) (hu : A.units < 22) (hh : A.handled = none)
    (hQ : ∀ b R d' items n' h' t' FS', (if b = true then ∃ v, Relation.TransGen (fun a b => b ∈ sc a) v v else ∃ rank : Int → Nat, ∀ d ∈ nodes, ∀ q ∈ sc d.key, rank q < rank d.key) →
      items.map (·.1) = (nodes.filter fun d => d.np = 0).map Nd.key → SlotEq FS FS' →
      Out (hideAll s.heap (((x, sobj dx) :: (dx, sdict d (.ref D) .none np nf) :: (D, oD) :: (famOf nodes ++ FS)).map (·.1))) ((R, listOf (ivals items).toArray n') :: (x, sobj dx) :: (dx, sdict d' (.ref D) (.ref R) np nf) :: (D, oD) :: (famOf nodes ++ FS')) h' →
      Q (.bool b) { s with heap := h', toks := t' }) :
    wpAny (model PySem.Challenge.pw_ij0208_01 w) A (call (.ref 202) [.ref x]) Q E s := by
  refine wpAny_call (enter (f := 202) _ rfl B N (by kernel_rfl) (Nat.lt_trans hroom (by decide)) (binds := [(Str.ofString "sorter", .ref x)]) (.of_eq rfl) (locs (by rfl)) ?_)
  intro L h₁ F N hlt
  generalize (hideAll s.heap _) = g at B F N hQ
  walk_at "WALKS"
  obtain ⟨oL, hoL, hoLd⟩ := frObj F
  replace N : News g L h₁ ([] ++ (((x, sobj dx) :: (dx, sdict d (.ref D) .none np nf) :: (D, oD) :: famOf nodes) ++ FS)) := N
  replace nd : Nod ([] ++ (((x, sobj dx) :: (dx, sdict d (.ref D) .none np nf) :: (D, oD) :: famOf nodes) ++ FS)) := nd
  have z1 := haveN N hoL
  have z2 := bsHideN (oL := oL) F B N
  have z3 := nodN (oL := oL) N nd
  have z4 : g.StaysIn (hideAll h₁ ((((x, sobj dx) :: (dx, sdict d (.ref D) .none np nf) :: (D, oD) :: famOf nodes) ++ (L, oL) :: FS).map (·.1))) := fun b o e => baseN F N e
  refine prepareSpec (outer := _ :: outer) (FS := (L, oL) :: FS) hD hlo hsc hins hlen z1 z2 z3 (Around.frames_deeper hA)
      ⟨show ScopeKind.function ≠ ScopeKind.module by decide, rfl, hoLd, hF⟩ (by first | exact dD hroom (by decide) | (simp only [depth_deeper]; omega)) (by first | exact uD hu (by decide) | (simp only [units_deeper]; omega)) hh ?_ ?_
  · rintro e base a0 R d' items n' h5 t5 FS5 hring hit hb1 hfl hs5 hb2 O5
    obtain ⟨oL', FS5, rfl, hsl, hs5⟩ := slotCons hs5
    obtain ⟨F5, N5, nd5⟩ := backN (pre := []) (W := (x, sobj dx) :: (dx, sdict d (.ref D) .none np nf) :: (D, oD) :: famOf nodes) (W' := (R, listOf (ivals items).toArray n') :: (x, sobj dx) :: (dx, sdict d' (.ref D) (.ref R) np nf) :: (D, oD) :: famOf nodes) F N nd hoL O5 hsl
    refine caughtFly (W := (R, listOf (ivals items).toArray n') :: (x, sobj dx) :: (dx, sdict d' (.ref D) (.ref R) np nf) :: (D, oD) :: famOf nodes) (FS := FS5) hA F5 B N5 nd5 (hF.slots hs5) (fun b o e => hb1 _ _ (z4 b o e)) hb2 hfl (gnCycleError w) (cycIn w) fun h6 FS6 hs6 F6 N6 nd6 => ?_
    clear N F N5 nd5 F5 nd
    walk_at "WALKS"
    exact hQ true R d' items n' _ _ FS6 (by rw [if_pos rfl]; exact hring) hit (hs5.trans hs6) (Out.of F6 N6 nd6)
  · rintro R d' items n' h5 t5 FS5 hrank hit hs5 O5
    obtain ⟨oL', FS5, rfl, hsl, hs5⟩ := slotCons hs5
    obtain ⟨F5, N5, nd5⟩ := backN (pre := []) (W := (x, sobj dx) :: (dx, sdict d (.ref D) .none np nf) :: (D, oD) :: famOf nodes) (W' := (R, listOf (ivals items).toArray n') :: (x, sobj dx) :: (dx, sdict d' (.ref D) (.ref R) np nf) :: (D, oD) :: famOf nodes) F N nd hoL O5 hsl
    clear N F nd
    walk_at "WALKS"
    exact hQ false R d' items n' _ _ FS5 (by rw [if_neg (by decide)]; exact hrank) hit hs5 (Out.of F5 N5 nd5)

end
local macro_rules | `(tactic| walk_at "eval Name") => `(tactic| (name_kind "globalImplicit"; k_dflt (first
  | (refine gnameX (by assumption) (by assumption) (by with_reducible first | exact gnUfilter _ | exact gnTopologicalSorter _ | exact gnUlawUlists _ | exact gnUlawUways _ | exact gnUlawUring _) ?_)
  | (refine bnameX (by assumption) (by assumption) (by kernel_rfl) (by boot_fast) (by decide) ?_))))
local macro_rules | `(tactic| walk_at "eval Name") => `(tactic| (name_kind "local"; k_dflt (refine nameX_L (by assumption) (by with_unfolding_all rfl) ?_)))
local macro_rules | `(tactic| walk_at "eval Name") => `(tactic| (name_kind "cell"; k_dflt (refine nameX_C (by assumption) (by rfl) (by walk_at "MEM") (by assumption) ?_)))
local macro_rules | `(tactic| walk_at "storeName") => `(tactic| k_dflt (refine' storeXC ?F ?N ?nd ?hc ?U ?hd ?_; (case F => assumption); (case N => assumption); (case nd => assumption); (case hc => exact rfl); (case U => walk_at "UPDF"); (case hd => assumption); intro h' o' F' N' nd' hd'))
local macro_rules | `(tactic| walk_at "binaryOp Pow int int") => `(tactic| k_dflt (refine pow2one (by omega) ?_))
local macro_rules | `(tactic| walk_at "binaryOp FloorDiv int int") => `(tactic| k_dflt (refine fdiv2 (by omega) ?_))
local macro_rules | `(tactic| walk_at "binaryOp Mod int int") => `(tactic| k_dflt (refine modP (by omega) ?_))
local macro_rules | `(tactic| walk_at "eval Name") => `(tactic| (name_kind "local"; k_dflt (refine cmpLocal (by assumption) (by walk_at "MEM") (by assumption) (by assumption) ?_)))
local macro_rules | `(tactic| walk_at "eval Name") => `(tactic| (name_kind "cell"; k_dflt (refine' cmpCell ?N ?hc ?hm ?ho ?_; (case N => assumption); (case hc => exact rfl); (case hm => walk_at "MEM"); (case ho => assumption))))
local macro_rules | `(tactic| walk_at "compareOp Eq int int") => `(tactic| (refine eqIntB ?_; intro b9 hb9))
local macro_rules | `(tactic| walk_at "subscriptTail Name Slice ref ref") => `(tactic| k_dflt ((rename Nod _ => nd9); refine sliceRevF (by assumption) (by assumption) nd9 (by walk_at "HGET") (by omega) ?_; intro D' h' F' N' nd'; clear nd9))
local macro_rules | `(tactic| walk_at "binaryOp Add ref ref") => `(tactic| k_dflt ((rename Nod _ => nd9); refine addListsF (by assumption) (by assumption) nd9 (by walk_at "HGET") (by walk_at "HGET") (by first | omega | (simp only [List.length_reverse, List.length_cons, List.length_nil]; omega)) ?_; intro D' h' F' N' nd'; clear nd9))
local macro_rules | `(tactic| walk_at "exec For") => `(tactic| refine Halt.go ?_)
local macro_rules | `(tactic| walk_at "MEM") => `(tactic| first | assumption | exact List.mem_append_left _ (by assumption) | exact List.mem_append_right _ (by assumption))
section
theorem reset_LL : True := by
  w_top off
  trivial
structure Rw where
  (a : Addr) (ps : List (Nat × Nat)) (n : Nat)
def ltr (i : Nat) : Str := ⟨#[97 + i]⟩
theorem ltrItem {prog : Program} {w : World} {A : Around} {E : Value → Shared → Prop} {s : Shared} {value slice : PySem.Expr} {t u : Tok} {i : Nat} {Q : Value → Shared → Prop} (hi : i < 5) (h : Q (.str (ltr i) s.toks) { s with toks := s.toks + 1 })
    (hs : subscripted slice false (.str (Str.ofString "abcde") t) (.int (i : Int) u) = operate [.str (Str.ofString "abcde") t, .int (i : Int) u] (getItem (.str (Str.ofString "abcde") t) (.int (i : Int) u)) := by with_unfolding_all rfl)
    (ht : ∀ r, letTemporaryGo value (.str (Str.ofString "abcde") t) r = pure () := by intro _; with_unfolding_all rfl) :
    wpAny (model prog w) A (subscriptTail value slice (.str (Str.ofString "abcde") t) (.int (i : Int) u)) Q E s := by
  refine subscriptTail_builtin (T := "str") (id := "str.__getitem__") (typeIs_str s _ t) slot_str_getitem.lookup (PyProof.Rows.getItem_str (by simp; omega) ?_ h) hs ht
  match i, hi with
  | 0, _ => decide +kernel
  | 1, _ => decide +kernel
  | 2, _ => decide +kernel
  | 3, _ => decide +kernel
  | 4, _ => decide +kernel
local macro_rules | `(tactic| walk_at "subscriptTail") => `(tactic| ((with_reducible show wpAny _ _ (subscriptTail _ _ (Value.str _ _) (Value.int _ _)) _ _ _); k_dflt (refine ltrItem (by omega) ?_)))
def lvals (ps : List (Nat × Nat)) : List Value := ps.map fun p => .str (ltr p.1) p.2
def rowObjs (rows : List Rw) : List (Addr × Obj) := rows.map fun r => (r.a, listOf (lvals r.ps).toArray r.n)
def hitIx (dr : Int) (n g i : Nat) : Bool := ((i : Int) + dr) % n = g || (168 + 24683 * dr) / 2 ^ (g * n) / 2 ^ i % 2 = 1
def rowIx (dr : Int) (n g : Nat) : List Nat :=
  let r := (List.range n).filter (hitIx dr n g)
  if g = 1 then r ++ r.reverse else r
theorem lvals_snoc (ps : List (Nat × Nat)) (i t : Nat) : lvals ps ++ [.str (ltr i) t] = lvals (ps ++ [(i, t)]) := by simp [lvals]
theorem hitLen {ps : List (Nat × Nat)} {i : Nat} {p : Nat × Nat} (h : ps.length ≤ i) : (ps ++ [p]).length ≤ i + 1 := by simp; omega
theorem hitT {f : Nat → Bool} {ps : List (Nat × Nat)} {i t : Nat} (hz : f i = true) (h : ps.map (·.1) = (List.range i).filter f) : (ps ++ [(i, t)]).map (·.1) = (List.range (i + 1)).filter f := by
  rw [List.map_append, h, List.range_succ, List.filter_append]; simp [hz]
theorem hitF {f : Nat → Bool} {ps : List (Nat × Nat)} {i : Nat} (hz : f i = false) (h : ps.map (·.1) = (List.range i).filter f) : ps.map (·.1) = (List.range (i + 1)).filter f := by
  rw [h, List.range_succ, List.filter_append]; simp [hz]
theorem rowIn {g h : Heap} {L : Addr} {a : Addr × Obj} {J r : List (Addr × Obj)} (N : News g L h (a :: (J ++ r))) (nd : Nod (a :: (J ++ r))) : News g L h (r ++ [a]) ∧ Nod (r ++ [a]) := by
  have hs : (a :: r).Sublist (a :: (J ++ r)) := .cons_cons _ (List.sublist_append_right _ _)
  have hp : (r ++ [a]).Perm (a :: r) := List.perm_append_comm
  exact ⟨newsPerm (newsSub N fun q hq => hs.subset hq) hp, nodPerm (nodSub nd hs) hp⟩
theorem rowPush {rows : List Rw} {a : Addr} {ps : List (Nat × Nat)} {n : Nat} : (rows.map fun r => Value.ref r.a).toArray.push (.ref a) = ((rows ++ [(⟨a, ps, n⟩ : Rw)]).map fun r => Value.ref r.a).toArray := by simp
theorem lvals_rev (ps : List (Nat × Nat)) : lvals (ps ++ ps.reverse) = lvals ps ++ (lvals ps).reverse := by simp [lvals]
theorem rowsAdd {dr : Int} {n : Nat} {rows : List Rw} {x : Rw} (h : ∀ g row, rows[g]? = some row → row.ps.map (·.1) = rowIx dr n g) (hx : x.ps.map (·.1) = rowIx dr n rows.length) :
    ∀ g row, (rows ++ [x])[g]? = some row → row.ps.map (·.1) = rowIx dr n g := by
  intro g row hg
  rcases Nat.lt_or_ge g rows.length with q | q
  · rw [List.getElem?_append_left q] at hg; exact h g row hg
  · have hl := (List.getElem?_eq_some_iff.mp hg).1
    rw [List.length_append, List.length_singleton] at hl
    obtain rfl : g = rows.length := by omega
    rw [List.getElem?_concat_length] at hg
    cases hg; exact hx
inductive ListsJ (L D : Addr) (o3 o4 : Obj) (dr : Int) (n : Nat) (m₀ : Str → Option Value) (i : Nat) (m : Str → Option Value) (nw : List (Addr × Obj)) : Prop
  | mk (n1 : Nat) (oG oT : Obj) (rows : List Rw) (vG vT : Option Value) (u : Str → Option Value) (a0 : rows.length = i) (a1 : (∀ g row, rows[g]? = some row → row.ps.map (·.1) = rowIx dr n g)) (a2 : oG.data = .cell vG) (a3 : oT.data = .cell vT) (a4 : nw = (D, listOf (rows.map fun r => Value.ref r.a).toArray n1) :: (L + 4, oT) :: (L + 3, oG) :: (L + 2, o3) :: (L + 1, o4) :: rowObjs rows) (a5 : m = fun y => if (["row"] : List Str).contains y then u y else m₀ y) : ListsJ L D o3 o4 dr n m₀ i m nw
theorem lawLists {w : World} {A : Around} {s : Shared} {dr : Int} {dt : Nat} {n : Nat} {nt : Nat} {Q E : Value → Shared → Prop}
    (hn : n ≤ 5) (hdr : 0 ≤ dr) (B : Bs w s.heap)
    (hroom : A.depth < 418) (hu : A.units < 26) (hh : A.handled = none)
    (hQ : ∀ D n1 rows h' t', rows.length = n → (∀ g row, rows[g]? = some row → row.ps.map (·.1) = rowIx dr n g) → Out s.heap ((D, listOf (rows.map fun r => Value.ref r.a).toArray n1) :: rowObjs rows) h' → Q (.ref D) { s with heap := h', toks := t' }) :
    wpAny (model PySem.Challenge.pw_ij0208_01 w) A (call (.ref 190) [.int dr dt, .int n nt]) Q E s := by
  refine wpAny_call (enterC (f := 190) [] rfl B (fun _ h => nomatch h) (by kernel_rfl) (Nat.lt_trans hroom (by decide)) (binds := [(Str.ofString "drawn", .int dr dt), (Str.ofString "size", .int n nt)]) (.of_eq rfl) (by rfl) (by decide) ?_)
  intro L h₁ tk₁ cells F N Y hlt
  obtain ⟨o1, o2, o3, o4, rfl, d1, d2, d3, d4⟩ := CellsAre.four Y
  have d1 : o1.data = .cell none := d1
  have d2 : o2.data = .cell none := d2
  have d3 : o3.data = .cell (some (.int n nt)) := d3
  have d4 : o4.data = .cell (some (.int dr dt)) := d4
  clear Y hlt
  replace F : Fr s.heap L h₁ fun _ => none := F
  replace N : News s.heap L h₁ [(L + 4, o1), (L + 3, o2), (L + 2, o3), (L + 1, o4)] := N
  have nd : Nod [(L + 4, o1), (L + 3, o2), (L + 2, o3), (L + 1, o4)] := by simp [Nod]
  walk_at "WALKS"
  rename Fr _ _ _ _ => F1
  rename News _ _ _ _ => N1
  rename Nod _ => nd1
  rename Addr => D
  clear F N
  refine Halt.go ?_
  refine forJ F1 ?_
  walk_at "WALKS"
  rename IsRange _ _ _ _ _ _ _ _ => R1
  rename Fr _ _ _ _ => F1
  rename News _ _ _ _ => N1
  obtain ⟨m₀, hm0, F1⟩ := frNamed F1
  refine Halt.go ?_
  refine srcN (g := s.heap) hh R1 (by omega) fun it s₂ src => ?_
  refine ⟨_, _, _, _, _, _, ListsJ L D o3 o4 dr n m₀,
    src, F1, N1, nd1, ⟨0, o2, o1, [], none, none, m₀, rfl, fun g row h => by simp at h, d2, d1, rfl, by funext y; simp⟩, fun _ _ _ _ => trivial, ?_, ?_⟩
  · rintro i v m nw I oI h tk hI ⟨hin, vt, rfl⟩ ⟨n1, oG, oT, rows, vG, vT, u, rfl, hrows, hG, hT, rfl, rfl⟩ F2 N2 nd2
    subst hm0
    replace F2 : Fr s.heap L h _ := F2
    replace N2 : News s.heap L h _ := N2
    have hgn : rows.length * n ≤ 20 := Nat.le_trans (Nat.mul_le_mul (show rows.length ≤ 4 by omega) hn) (by decide)
    have hgn' : rows.length * n ≤ 1000 := by omega
    walk_at "WALKS"
    rename Fr _ _ _ _ => F3
    refine assignT F3 (by rfl) (by rfl) (by decide) rfl (by decide) (by decide) ?_
    walk_at "WALKS"
    rename IsRange _ _ _ _ _ _ _ _ => R2
    rename Fr _ _ _ _ => F4
    rename News _ _ _ _ => N4
    rename Nod _ => nd4
    obtain ⟨oT', oG', tT, hT', hG', N4, nd4⟩ : ∃ oT' oG' tT, oT'.data = .cell (some (.int ((168 + 24683 * dr) / 2 ^ (rows.length * n)) tT)) ∧ oG'.data = .cell (some (.int rows.length vt)) ∧
      News s.heap L _ ((I, oI) :: (D, listOf (rows.map fun r => Value.ref r.a).toArray n1) :: (L + 4, oT') :: (L + 3, oG') :: (L + 2, o3) :: (L + 1, o4) :: rowObjs rows) ∧
      Nod ((I, oI) :: (D, listOf (rows.map fun r => Value.ref r.a).toArray n1) :: (L + 4, oT') :: (L + 3, oG') :: (L + 2, o3) :: (L + 1, o4) :: rowObjs rows) := ⟨_, _, _, by assumption, by assumption, N4, nd4⟩
    refine Halt.go ?_
    refine srcN (g := s.heap) hh R2 (by omega) fun it s₂ src2 => ?_
    refine ⟨_, _, _, _, _, fun i ys nw => nw = (I, oI) :: (D, listOf (rows.map fun r => Value.ref r.a).toArray n1) :: (L + 4, oT') :: (L + 3, oG') :: (L + 2, o3) :: (L + 1, o4) :: rowObjs rows ∧
      ∃ ps : List (Nat × Nat), ys = lvals ps ∧ ps.length ≤ i ∧ ps.map (·.1) = (List.range i).filter (hitIx dr n rows.length),
      src2, by rw [sizeLine_eq]; omega, F4, N4, nd4, ⟨rfl, [], rfl, Nat.le_refl _, rfl⟩, fun _ _ _ _ => trivial, ?_, useLocal rfl rfl rfl fun D3 h3 tk3 ys nw hJ F5 N5 nd5 => ?_⟩
    · rintro i v ys nw I2 oI2 C oC D2 m₂ h3 tk3 E' ⟨hi2, tv, rfl⟩ ⟨rfl, ps, rfl, hpl, hps⟩ hC hv F5 N5 nd5
      walk_at "WALKS"
      · rename_i b hb hbt
        have hz : hitIx dr n rows.length i = true := by unfold hitIx; rw [← hb, hbt]; rfl
        exact ⟨_, _, _, rfl, F5, N5, nd5, rfl, _, lvals_snoc _ _ _, hitLen hpl, hitT hz hps⟩
      · rename_i b hb hbf b2 hb2 hbt
        have hz : hitIx dr n rows.length i = true := by unfold hitIx; rw [← hb, ← hb2, hbf, hbt]; rfl
        exact ⟨_, _, _, rfl, F5, N5, nd5, rfl, _, lvals_snoc _ _ _, hitLen hpl, hitT hz hps⟩
      · rename_i b hb hbf b2 hb2 hbt
        have hz : hitIx dr n rows.length i = false := by unfold hitIx; rw [← hb, ← hb2, hbf, hbt]; rfl
        exact ⟨_, _, _, rfl, F5, N5, nd5, rfl, ps, rfl, Nat.le_succ_of_le hpl, hitF hz hps⟩
    · obtain ⟨rfl, ps, rfl, hpl, hps⟩ := hJ
      have hz1 : (rows.map fun r => Value.ref r.a).toArray.size < 1000 := by simp; omega
      have hlv : (lvals ps).length = ps.length := by simp [lvals]
      walk_at "WALKS"
      · rename Fr _ _ _ _ => F6
        rename News _ _ _ _ => N6
        rename Nod _ => nd6
        rename Bool => b9
        rename b9 = decide _ => hb
        rename b9 = true => hbt
        have h1 : rows.length = 1 := by rw [hbt] at hb; have := of_decide_eq_true hb.symm; omega
        rename Addr => S
        obtain ⟨N7, nd7⟩ := rowIn (J := [_, _]) N6 nd6
        rw [rowPush (ps := ps ++ ps.reverse) (n := 0)] at N7 nd7
        rw [← lvals_rev] at N7 nd7
        refine ⟨_, _, _, _, rfl, F6, N7, nd7, n1 + 1, oG', oT', rows ++ [⟨S, ps ++ ps.reverse, 0⟩], _, _, fun z => if z = Str.ofString "row" then some (.ref D3) else u z, List.length_append, rowsAdd hrows ?_, hG', hT', ?_, ?_⟩
        · rw [List.map_append, List.map_reverse, hps]; unfold rowIx; rw [if_pos h1]
        · simp only [rowObjs, List.map_append, List.map_cons, List.map_nil]; rfl
        · funext y; by_cases hy : y = Str.ofString "row" <;> simp [hy]
      · rename Fr _ _ _ _ => F6
        rename News _ _ _ _ => N6
        rename Nod _ => nd6
        rename Bool => b9
        rename b9 = decide _ => hb
        rename b9 = false => hbt
        have h1 : rows.length ≠ 1 := by rw [hbt] at hb; have := of_decide_eq_false hb.symm; omega
        obtain ⟨N7, nd7⟩ := rowIn (J := []) N6 nd6
        rw [rowPush (ps := ps) (n := (lvals ps).length)] at N7 nd7
        refine ⟨_, _, _, _, rfl, F6, N7, nd7, n1 + 1, oG', oT', rows ++ [⟨D3, ps, (lvals ps).length⟩], _, _, fun z => if z = Str.ofString "row" then some (.ref D3) else u z, List.length_append, rowsAdd hrows ?_, hG', hT', ?_, ?_⟩
        · rw [hps]; unfold rowIx; rw [if_neg h1]
        · simp only [rowObjs, List.map_append, List.map_cons, List.map_nil]; rfl
        · funext y; by_cases hy : y = Str.ofString "row" <;> simp [hy]
  · rintro h tk m nw ⟨n1, oG, oT, rows, vG, vT, u, hlen, hrows, hG, hT, rfl, rfl⟩ F2 N2 nd2
    subst hm0
    replace F2 : Fr s.heap L h _ := F2
    replace N2 : News s.heap L h _ := N2
    walk_at "WALKS"
    exact hQ _ _ rows _ _ hlen hrows (outDrop2 (outDrop2 (outDrop2 (outDrop2 (Out.of F2 N2 nd2)))))

end
section
local macro_rules | `(tactic| walk_at "no goal 0") => `(tactic| fail)
theorem reset_WY : True := by
  w_top off
  trivial
def waysStep (ws : List (List Nat)) (row : List Nat) : List (List Nat) := ws.flatMap fun w => (row.filter fun r => !w.contains r).map fun r => w ++ [r]
def waysIx (rows : List (List Nat)) : List (List Nat) := rows.foldl waysStep [[]]
abbrev Rw.ix (r : Rw) : List Nat := r.ps.map (·.1)
abbrev rwRefs (rows : List Rw) : List Value := rows.map fun r => Value.ref r.a
theorem waysStep_snoc (a : List (List Nat)) (x row : List Nat) : waysStep (a ++ [x]) row = waysStep a row ++ (row.filter fun r => !x.contains r).map fun r => x ++ [r] := by simp [waysStep]
theorem rowObjs_mem {rows : List Rw} {r : Rw} (h : r ∈ rows) : (r.a, listOf (lvals r.ps).toArray r.n) ∈ rowObjs rows := List.mem_map.mpr ⟨r, h, rfl⟩
theorem ltr_inj {i j : Nat} : ltr i = ltr j ↔ i = j := by
  unfold ltr
  constructor
  · intro h; injection h with h; have := congrArg (fun a => a[0]?) h; simpa using this
  · rintro rfl; rfl
theorem lvals_strs : ∀ ps : List (Nat × Nat), StrsAre (lvals ps) (ps.map fun p => ltr p.1)
  | [] => .nil
  | p :: r => .cons _ _ (lvals_strs r)
theorem any_ltr (ps : List (Nat × Nat)) (i : Nat) : (ps.map fun p => ltr p.1).any (· == ltr i) = (ps.map (·.1)).contains i := by
  rw [Bool.eq_iff_iff]
  simp only [List.any_eq_true, List.mem_map, beq_iff_eq, List.contains_iff_mem]
  constructor
  · rintro ⟨_, ⟨p, hp, rfl⟩, e⟩; exact ⟨p, hp, ltr_inj.mp e⟩
  · rintro ⟨p, hp, rfl⟩; exact ⟨_, ⟨p, hp, rfl⟩, rfl⟩
theorem notInLtr {prog : Program} {w : World} {A : Around} {E : Value → Shared → Prop} {s : Shared} {l : Addr} {ps : List (Nat × Nat)} {n i : Nat} {t : Tok} {Q : Value → Shared → Prop} (hl : s.heap.get? l = some (listOf (lvals ps).toArray n))
    (h : ∀ b, b = !(ps.map (·.1)).contains i → Q (.bool b) s) : wpAny (model prog w) A (compareOp .NotIn (.str (ltr i) t) (.ref l)) Q E s :=
  notin_list_strs (isListH hl) (lvals_strs ps) (h _ (by rw [any_ltr]))
local macro_rules | `(tactic| walk_at "compareOp NotIn") => `(tactic| ((with_reducible show wpAny _ _ (compareOp CmpOp.NotIn (Value.str _ _) (Value.ref _)) _ _ _); k_dflt (refine notInLtr (by walk_at "HGET") ?_; intro b9 hb9)))
theorem lvals_snoc' (ps : List (Nat × Nat)) (q : Nat × Nat) : lvals ps ++ [.str (ltr q.1) q.2] = lvals (ps ++ [q]) := by simp [lvals]
theorem rowObjs_snoc (rows : List Rw) (r : Rw) : rowObjs (rows ++ [r]) = rowObjs rows ++ [(r.a, listOf (lvals r.ps).toArray r.n)] := by simp [rowObjs]
theorem ix_snoc (a : Addr) (ps : List (Nat × Nat)) (q : Nat × Nat) (n : Nat) : Rw.ix ⟨a, ps ++ [q], n⟩ = ps.map (·.1) ++ [q.1] := by simp [Rw.ix]
theorem ix_get {r : Rw} {j : Nat} {q : Nat × Nat} (h : r.ps[j]? = some q) : r.ix[j]? = some q.1 := by rw [List.getElem?_map, h]; rfl
theorem wayStepT {base l : List (List Nat)} {row xi : List Nat} {j q : Nat} (h : l = base ++ ((row.take j).filter fun q => !xi.contains q).map (fun q => xi ++ [q])) (hq : row[j]? = some q) (hz : (!xi.contains q) = true) :
    l ++ [xi ++ [q]] = base ++ ((row.take (j + 1)).filter fun q => !xi.contains q).map (fun q => xi ++ [q]) := by
  rw [h, List.take_add_one, hq, List.filter_append, List.map_append, List.append_assoc]
  congr 2
  simp only [Option.toList_some, List.filter_cons, hz, if_true, List.filter_nil, List.map_cons, List.map_nil]
theorem wayStepF {base l : List (List Nat)} {row xi : List Nat} {j q : Nat} (h : l = base ++ ((row.take j).filter fun q => !xi.contains q).map (fun q => xi ++ [q])) (hq : row[j]? = some q) (hz : (!xi.contains q) = false) :
    l = base ++ ((row.take (j + 1)).filter fun q => !xi.contains q).map (fun q => xi ++ [q]) := by
  rw [h, List.take_add_one, hq, List.filter_append, List.map_append]
  simp only [Option.toList_some, List.filter_cons, hz, Bool.false_eq_true, if_false, List.filter_nil, List.map_nil, List.append_nil]
inductive WaysJ (L Rs : Addr) (rows : List Rw) (i : Nat) (m : Str → Option Value) (nw : List (Addr × Obj)) : Prop
  | mk (W : Addr) (n1 : Nat) (ways : List Rw) (oR : Obj) (vR : Option Value) (a0 : ways.map Rw.ix = waysIx ((rows.take i).map Rw.ix)) (a1 : ways.length ≤ 10 ^ i) (a2 : (∀ x ∈ ways, x.ps.length ≤ i)) (a3 : oR.data = .cell vR) (a4 : nw = (W, listOf (rwRefs ways).toArray n1) :: (L + 1, oR) :: rowObjs ways) (a5 : m = fun y => if y = Str.ofString "ways" then some (.ref W) else if y = Str.ofString "rows" then some (.ref Rs) else none) : WaysJ L Rs rows i m nw
inductive WaysK (L I W : Addr) (oI oR' : Obj) (n1 : Nat) (ways : List Rw) (r : Rw) (i : Nat) (i2 : Nat) (ys : List Value) (nw : List (Addr × Obj)) : Prop
  | mk (new : List Rw) (a0 : nw = (I, oI) :: (W, listOf (rwRefs ways).toArray n1) :: (L + 1, oR') :: (rowObjs ways ++ rowObjs new)) (a1 : ys = rwRefs new) (a2 : new.map Rw.ix = waysStep ((ways.take i2).map Rw.ix) r.ix) (a3 : new.length ≤ 10 * i2) (a4 : ∀ x ∈ new, x.ps.length ≤ i + 1) : WaysK L I W oI oR' n1 ways r i i2 ys nw
theorem lawWays {w : World} {A : Around} {s : Shared} {Rs : Addr} {rn : Nat} {rows : List Rw} {Q E : Value → Shared → Prop}
    (hR : s.heap.get? Rs = some (listOf (rwRefs rows).toArray rn)) (hrows : ∀ r ∈ rows, s.heap.get? r.a = some (listOf (lvals r.ps).toArray r.n)) (hl1 : rows.length ≤ 5) (hl2 : ∀ r ∈ rows, r.ps.length ≤ 10) (B : Bs w s.heap)
    (hroom : A.depth < 418) (hu : A.units < 26) (hh : A.handled = none)
    (hQ : ∀ W n1 ways h' t', ways.map Rw.ix = waysIx (rows.map Rw.ix) → ways.length ≤ 100000 → Out s.heap ((W, listOf (rwRefs ways).toArray n1) :: rowObjs ways) h' → Q (.ref W) { s with heap := h', toks := t' }) :
    wpAny (model PySem.Challenge.pw_ij0208_01 w) A (call (.ref 195) [.ref Rs]) Q E s := by
  refine wpAny_call (enterC (f := 195) [] rfl B (fun _ h => nomatch h) (by kernel_rfl) (Nat.lt_trans hroom (by decide)) (binds := [(Str.ofString "rows", .ref Rs)]) (.of_eq rfl) (by rfl) (by decide) ?_)
  intro L h₁ tk₁ cells F N Y hlt
  obtain ⟨o1, rfl, d1⟩ := CellsAre.one Y
  replace d1 : o1.data = .cell none := d1
  clear Y hlt
  replace F : Fr s.heap L h₁ fun y => if y = Str.ofString "rows" then some (.ref Rs) else none := frOf F fun y => rfl
  replace N : News s.heap L h₁ [(L + 1, o1)] := N
  have nd : Nod [(L + 1, o1)] := by simp [Nod]
  walk_at "WALKS"
  rename Fr _ _ _ _ => F1
  rename News _ _ _ _ => N1
  rename Nod _ => nd1
  clear F N
  obtain ⟨W0, e0, N1, nd1, F1⟩ : ∃ W0 e0, News s.heap L _ [(W0, listOf (rwRefs [⟨e0, [], 0⟩]).toArray 0), (e0, listOf (lvals []).toArray 0), (L + 1, o1)] ∧ Nod [(W0, listOf (rwRefs [⟨e0, [], 0⟩]).toArray 0), (e0, listOf (lvals []).toArray 0), (L + 1, o1)] ∧
    Fr s.heap L _ (fun y => if y = Str.ofString "ways" then some (.ref W0) else if y = Str.ofString "rows" then some (.ref Rs) else none) := ⟨_, _, N1, nd1, F1⟩
  have hp0 := (List.Perm.cons (W0, listOf (rwRefs [⟨e0, [], 0⟩]).toArray 0) (List.Perm.swap (e0, listOf (lvals []).toArray 0) (L + 1, o1) []))
  replace N1 := newsPerm N1 hp0
  replace nd1 := nodPerm nd1 hp0
  refine Halt.go ?_
  refine forJ F1 ?_
  walk_at "WALKS"
  refine Halt.go ?_
  refine srcList (g := s.heap) hh (F1.keep _ _ hR) fun it s₂ src => ?_
  refine ⟨_, _, _, _, _, _, WaysJ L Rs rows,
    src, F1, N1, nd1, ⟨W0, 0, [⟨e0, [], 0⟩], o1, none, rfl, by simp, by simp, d1, rfl, rfl⟩, fun _ _ _ _ => .inr hR, ?_, ?_⟩
  · rintro i v m nw I oI h tk hI hP ⟨W, n1, ways, oR, vR, hways, hwl, hwx, hoR, rfl, rfl⟩ F2 N2 nd2
    obtain ⟨r, hr, rfl⟩ : ∃ r, rows[i]? = some r ∧ v = .ref r.a := by
      simp only [List.getElem?_toArray, List.getElem?_map, Option.map_eq_some_iff] at hP
      obtain ⟨r, hr, e⟩ := hP
      exact ⟨r, hr, e.symm⟩
    have hrm := List.mem_of_getElem? hr
    have hi5 : i < 5 := Nat.lt_of_lt_of_le (List.getElem?_eq_some_iff.mp hr).1 hl1
    have hra := hrows r hrm
    have hrl := hl2 r hrm
    replace F2 : Fr s.heap L h _ := F2
    replace N2 : News s.heap L h _ := N2
    walk_at "WALKS"
    rename Fr _ _ _ _ => F3
    refine assign2 F3 (by rfl) (by rfl) (by decide) rfl (by decide) (by decide) (by decide) (by decide) ?_
    walk_at "WALKS"
    rename Fr _ _ _ _ => F4
    rename News _ _ _ _ => N4
    rename Nod _ => nd4
    obtain ⟨oR', hR', N4, nd4⟩ : ∃ oR', oR'.data = .cell (some (.ref r.a)) ∧ News s.heap L _ ((I, oI) :: (W, listOf (rwRefs ways).toArray n1) :: (L + 1, oR') :: rowObjs ways) ∧ Nod ((I, oI) :: (W, listOf (rwRefs ways).toArray n1) :: (L + 1, oR') :: rowObjs ways) := ⟨_, by assumption, N4, nd4⟩
    refine Halt.go ?_
    refine srcList (g := s.heap) hh (N4 _ (.tail _ (.head _))).1 fun it s₂ src2 => ?_
    refine ⟨_, _, _, _, _, WaysK L I W oI oR' n1 ways r i,
      src2, F4, N4, nd4, ⟨[], by simp [rowObjs], rfl, rfl, by simp, by simp⟩, fun i2 ys nw hJ => ?_, ?_, useLocal rfl rfl rfl fun D3 h3 tk3 ys nw hJ F5 N5 nd5 => ?_⟩
    · obtain ⟨new, rfl, _⟩ := hJ
      exact .inl (.tail _ (.head _))
    · rintro i2 v2 ys nw I1 oI1 C oC D m₂ h3 tk3 E' hP2 ⟨new, rfl, rfl, hnew, hnl, hnx⟩ hC hv F5 N5 nd5
      obtain ⟨x, hx, rfl⟩ : ∃ x, ways[i2]? = some x ∧ v2 = .ref x.a := by
        simp only [List.getElem?_toArray, List.getElem?_map, Option.map_eq_some_iff] at hP2
        obtain ⟨x, hx, e⟩ := hP2
        exact ⟨x, hx, e.symm⟩
      have hxm := List.mem_of_getElem? hx
      have hi2 : i2 < ways.length := (List.getElem?_eq_some_iff.mp hx).1
      have hi4 : 10 ^ i ≤ 10 ^ 4 := Nat.pow_le_pow_right (by decide) (by omega)
      have hlx : (lvals x.ps).length = x.ps.length := by simp [lvals]
      have hxl := hwx x hxm
      walk_at "WALKS"
      refine Halt.go ?_
      refine srcList (g := s.heap) hh (F5.keep _ _ hra) fun it3 s₃ src3 => ?_
      refine ⟨_, _, _, _, fun j ys nw => j ≤ 10 ∧ ∃ new' : List Rw, nw = (I, oI) :: (W, listOf (rwRefs ways).toArray n1) :: (L + 1, oR') :: (rowObjs ways ++ rowObjs new') ∧ ys = rwRefs new' ∧ new'.map Rw.ix = new.map Rw.ix ++ ((r.ix.take j).filter fun q => !x.ix.contains q).map (fun q => x.ix ++ [q]) ∧ new'.length ≤ new.length + j ∧ ∀ z ∈ new', z.ps.length ≤ i + 1,
        _, oC, m₂, src3, ⟨_, _, rfl⟩, F5, hC, hv, N5, nd5, ⟨Nat.zero_le _, new, rfl, rfl, by simp, Nat.le_refl _, hnx⟩, fun _ _ _ _ => .inr hra, ?_, ?_, ?_⟩
      · rintro j ys nw ⟨hj, new', rfl, rfl, h1, h2, h3⟩
        rw [rwRefs, List.length_map]; omega
      · rintro j v3 ys nw I2 oI2 oC2 m₃ h4 tk4 E4 hP3 ⟨hj10, new', rfl, rfl, hn1, hn2, hn3⟩ hC2 hv1 hv2 F6 N6 nd6
        obtain ⟨q, hq, rfl⟩ : ∃ q, r.ps[j]? = some q ∧ v3 = .str (ltr q.1) q.2 := by
          simp only [lvals, List.getElem?_toArray, List.getElem?_map, Option.map_eq_some_iff] at hP3
          obtain ⟨q, hq, e⟩ := hP3
          exact ⟨q, hq, e.symm⟩
        have hxa : h4.get? x.a = some (listOf (lvals x.ps).toArray x.n) := (N6 _ (.tail _ (.tail _ (.tail _ (.tail _ (.tail _ (.tail _ (.tail _ (List.mem_append_left _ (rowObjs_mem hxm)))))))))).1
        have hxo := rowObjs_mem hxm
        walk_at "WALKS"
        · rename Bool => b9
          rename b9 = (!_) => hb
          rename b9 = true => hbt
          have hz : (!x.ix.contains q.1) = true := by rw [← hbt, hb]
          rename Fr _ _ _ _ => F7
          rename News _ _ _ _ => N7
          rename Nod _ => nd7
          rename Addr => S
          obtain ⟨N8, nd8⟩ := rowIn (J := [_]) N7 nd7
          rw [lvals_snoc'] at N8 nd8
          refine ⟨_, _, _, rfl, F7, N8, nd8, Nat.succ_le_of_lt (Nat.lt_of_lt_of_le (List.getElem?_eq_some_iff.mp hq).1 hrl), new' ++ [⟨S, x.ps ++ [q], 0⟩], ?_, ?_, ?_, ?_, ?_⟩
          · rw [rowObjs_snoc, ← List.append_assoc]; rfl
          · simp [rwRefs]
          · rw [List.map_append, List.map_cons, List.map_nil, ix_snoc]
            exact wayStepT hn1 (ix_get hq) hz
          · simp; omega
          · intro z hz
            rcases List.mem_append.mp hz with hz | hz
            · exact hn3 z hz
            · rw [List.mem_singleton.mp hz]; simp; omega
        · rename Bool => b9
          rename b9 = (!_) => hb
          rename b9 = false => hbt
          have hz : (!x.ix.contains q.1) = false := by rw [← hbt, hb]
          exact ⟨_, _, _, rfl, F6, N6, nd6, Nat.succ_le_of_lt (Nat.lt_of_lt_of_le (List.getElem?_eq_some_iff.mp hq).1 hrl), new', rfl, rfl, wayStepF hn1 (ix_get hq) hz, by omega, hn3⟩
      · rintro ys nw ⟨hj, new', rfl, rfl, h1, h2, h3⟩
        refine ⟨new', rfl, rfl, ?_, ?_, h3⟩
        · rw [h1, hnew, List.take_add_one, hx, List.map_append]
          simp only [Option.toList_some, List.map_cons, List.map_nil]
          rw [waysStep_snoc, show List.take (lvals r.ps).toArray.size r.ix = r.ix from List.take_of_length_le (by simp [lvals])]
        · have : (lvals r.ps).toArray.size = r.ps.length := by simp [lvals]
          omega
    · obtain ⟨new, rfl, rfl, hnew, hnl, hnx⟩ := hJ
      walk_at "WALKS"
      have hsz : (rwRefs ways).toArray.size = ways.length := by simp [rwRefs]
      rw [hsz] at hnew hnl
      rw [List.take_length] at hnew
      have hsub : ((D3, listOf (rwRefs new).toArray (rwRefs new).length) :: (I, oI) :: (L + 1, oR') :: rowObjs new).Sublist ((D3, listOf (rwRefs new).toArray (rwRefs new).length) :: (I, oI) :: (W, listOf (rwRefs ways).toArray n1) :: (L + 1, oR') :: (rowObjs ways ++ rowObjs new)) :=
        .cons_cons _ (.cons_cons _ (.cons _ (.cons_cons _ (List.sublist_append_right _ _))))
      have hsw := List.Perm.swap (D3, listOf (rwRefs new).toArray (rwRefs new).length) (I, oI) ((L + 1, oR') :: rowObjs new)
      refine ⟨_, _, _, _, rfl, F5, newsPerm (newsSub N5 fun q hq => hsub.subset hq) hsw, nodPerm (nodSub nd5 hsub) hsw, D3, _, new, oR', _, ?_, ?_, hnx, hR', rfl, ?_⟩
      · rw [hnew, List.take_add_one, hr, List.map_append, hways]; unfold waysIx; rw [List.foldl_append]; rfl
      · rw [Nat.pow_succ]; omega
      · funext y; by_cases hy : y = Str.ofString "ways" <;> simp [hy]
  · rintro h tk m nw ⟨W, n1, ways, oR, vR, hways, hwl, hwx, hoR, rfl, rfl⟩ F2 N2 nd2
    replace F2 : Fr s.heap L h _ := F2
    replace N2 : News s.heap L h _ := N2
    have hsz : (rwRefs rows).toArray.size = rows.length := by simp [rwRefs]
    rw [hsz, List.take_length] at hways
    walk_at "WALKS"
    exact hQ _ _ ways _ _ hways (Nat.le_trans hwl (Nat.le_trans (Nat.pow_le_pow_right (by decide) (by rw [hsz]; exact hl1)) (by decide))) (outDrop2 (Out.of F2 N2 nd2))

end
section
structure Hous (n : Nat) (ls : Int → List Nat) (ow : Nat → Int) (rm : Int → Nat) : Prop where
  h1 : ∀ g, rng n g → ∀ i ∈ ls g, i < n
  h2 : ∀ i, i < n → rng n (ow i)
  h3 : ∀ g, rng n g → rm g < n ∧ ow (rm g) = g
  h4 : ∀ i, i < n → rm (ow i) = i
  h5 : ∀ g, rng n g → rm g ∈ ls g
def pdOf (ls : Int → List Nat) (ow : Nat → Int) (g : Int) : List Int := ((ls g).map ow).filter fun p => p ≠ g
def leftOf (ls : Int → List Nat) (rm : Int → Nat) (Gs : List Int) (g : Int) : List Nat := (ls g).filter fun i => !(Gs.map rm).contains i
section
variable {n : Nat} {ls : Int → List Nat} {ow : Nat → Int} {rm : Int → Nat} {Gs R : List Int} {g : Int}
theorem pd_ne (g p : Int) (h : p ∈ pdOf ls ow g) : p ≠ g := by simpa using (List.mem_filter.mp h).2
theorem pd_mem {p : Int} : p ∈ pdOf ls ow g ↔ (∃ i ∈ ls g, ow i = p) ∧ p ≠ g := by unfold pdOf; rw [List.mem_filter, List.mem_map]; simp
theorem pd_rng (H : Hous n ls ow rm) (hg : rng n g) {p : Int} (h : p ∈ pdOf ls ow g) : rng n p := by
  obtain ⟨⟨i, hi, rfl⟩, _⟩ := pd_mem.mp h
  exact H.h2 i (H.h1 g hg i hi)
theorem taken_mem (H : Hous n ls ow rm) (hG : ∀ g ∈ Gs, rng n g) {i : Nat} (hi : i < n) : i ∈ Gs.map rm ↔ ow i ∈ Gs := by
  rw [List.mem_map]
  constructor
  · rintro ⟨g, hg, rfl⟩; rw [(H.h3 g (hG g hg)).2]; exact hg
  · intro h; exact ⟨_, h, H.h4 i hi⟩
theorem left_mem (H : Hous n ls ow rm) (hG : ∀ g ∈ Gs, rng n g) (hg : rng n g) {i : Nat} : i ∈ leftOf ls rm Gs g ↔ i ∈ ls g ∧ ow i ∉ Gs := by
  unfold leftOf
  rw [List.mem_filter]
  refine and_congr_right fun hi => ?_
  rw [Bool.not_eq_true', ← Bool.not_eq_true, List.contains_iff_mem, taken_mem H hG (H.h1 g hg i hi)]
theorem left_own (H : Hous n ls ow rm) (hG : ∀ g ∈ Gs, rng n g) (hg : rng n g) (hn : g ∉ Gs) : rm g ∈ leftOf ls rm Gs g :=
  (left_mem H hG hg).mpr ⟨H.h5 g hg, by rw [(H.h3 g hg).2]; exact hn⟩
theorem due_room (H : Hous n ls ow rm) (hG : ∀ g ∈ Gs, rng n g) (hg : rng n g) (hp : ∀ p ∈ pdOf ls ow g, p ∈ Gs) : ∀ i ∈ leftOf ls rm Gs g, i = rm g := fun i hi => by
  obtain ⟨h1, h2⟩ := (left_mem H hG hg).mp hi
  have : ow i = g := Classical.byContradiction fun h => h2 (hp _ (pd_mem.mpr ⟨⟨i, h1, rfl⟩, h⟩))
  rw [← this, H.h4 i (H.h1 g hg i h1)]
theorem due_iff (H : Hous n ls ow rm) (hG : ∀ g ∈ Gs, rng n g) (hg : rng n g) (hn : g ∉ Gs) {x : Nat} (hx : (leftOf ls rm Gs g)[0]? = some x) :
    (∀ i ∈ leftOf ls rm Gs g, i = x) ↔ ∀ p ∈ pdOf ls ow g, p ∈ Gs := by
  constructor
  · intro h p hp
    obtain ⟨⟨i, hi, rfl⟩, hne⟩ := pd_mem.mp hp
    refine Classical.byContradiction fun hno => hne ?_
    have e1 := h _ (left_own H hG hg hn)
    have e2 := h i ((left_mem H hG hg).mpr ⟨hi, hno⟩)
    rw [e2, ← e1, (H.h3 g hg).2]
  · intro h i hi
    rw [due_room H hG hg h i hi, due_room H hG hg h x (List.mem_of_getElem? hx)]
def cgOf (ls : Int → List Nat) (rm : Int → Nat) (g : Int) : Nat := (ls g).count (rm g)
theorem left_rep (H : Hous n ls ow rm) (hG : ∀ g ∈ Gs, rng n g) (hg : rng n g) (hn : g ∉ Gs) (hp : ∀ p ∈ pdOf ls ow g, p ∈ Gs) : leftOf ls rm Gs g = List.replicate (cgOf ls rm g) (rm g) := by
  have e : leftOf ls rm Gs g = (ls g).filter (· == rm g) := by
    unfold leftOf
    apply List.filter_congr
    intro i hi
    rw [Bool.eq_iff_iff, beq_iff_eq]
    have hl := left_mem H hG hg (i := i)
    unfold leftOf at hl
    rw [List.mem_filter] at hl
    constructor
    · intro h; exact due_room H hG hg hp i ((left_mem H hG hg).mpr (hl.mp ⟨hi, h⟩))
    · rintro rfl
      exact (hl.mpr ⟨hi, by rw [(H.h3 g hg).2]; exact hn⟩).2
  rw [e, List.filter_beq]; rfl
theorem waysStep_app (a b : List (List Nat)) (row : List Nat) : waysStep (a ++ b) row = waysStep a row ++ waysStep b row := by simp [waysStep]
theorem ways_app (rows : List (List Nat)) : ∀ (a b : List (List Nat)), rows.foldl waysStep (a ++ b) = rows.foldl waysStep a ++ rows.foldl waysStep b := by
  induction rows with
  | nil => intro a b; rfl
  | cons r t ih => intro a b; rw [List.foldl_cons, List.foldl_cons, List.foldl_cons, waysStep_app, ih]
theorem ways_nil (rows : List (List Nat)) : rows.foldl waysStep [] = [] := by
  induction rows with
  | nil => rfl
  | cons r t ih => rw [List.foldl_cons]; exact ih
theorem ways_rep (rows : List (List Nat)) (T : List Nat) : ∀ c, rows.foldl waysStep (List.replicate c T) = (List.replicate c (rows.foldl waysStep [T])).flatten
  | 0 => ways_nil rows
  | c + 1 => by rw [List.replicate_succ, show T :: List.replicate c T = [T] ++ List.replicate c T from rfl, ways_app, ways_rep rows T c, List.replicate_succ, List.flatten_cons]
theorem waysStep_pre (T : List Nat) (ws : List (List Nat)) (row : List Nat) : waysStep (ws.map (T ++ ·)) row = (waysStep ws (row.filter fun i => !T.contains i)).map (T ++ ·) := by
  induction ws with
  | nil => rfl
  | cons w t ih =>
    rw [List.map_cons, show (T ++ w) :: t.map (T ++ ·) = [T ++ w] ++ t.map (T ++ ·) from rfl, waysStep_app, ih, show w :: t = [w] ++ t from rfl, waysStep_app, List.map_append]
    congr 1
    simp only [waysStep, List.flatMap_cons, List.flatMap_nil, List.append_nil, List.map_map, List.filter_filter]
    have e : (row.filter fun r => !(T ++ w).contains r) = row.filter fun a => (!w.contains a) && !T.contains a := by
      apply List.filter_congr
      intro i _
      rw [Bool.eq_iff_iff]
      simp [not_or]
      exact ⟨fun h => ⟨h.2, h.1⟩, fun h => ⟨h.2, h.1⟩⟩
    rw [e]
    apply List.map_congr_left
    intro i _
    simp
theorem ways_pre (T : List Nat) : ∀ (rows ws : List (List Nat)), rows.foldl waysStep (ws.map (T ++ ·)) = ((rows.map fun row => row.filter fun i => !T.contains i).foldl waysStep ws).map (T ++ ·)
  | [], ws => rfl
  | r :: t, ws => by rw [List.foldl_cons, waysStep_pre, ways_pre T t, List.map_cons, List.foldl_cons]
def copiesOf (ls : Int → List Nat) (rm : Int → Nat) (Gs : List Int) : Nat := Gs.foldl (fun c g => c * cgOf ls rm g) 1
theorem step_rep (W row : List Nat) (x k : Nat) (h : (row.filter fun i => !W.contains i) = List.replicate k x) : ∀ c, waysStep (List.replicate c W) row = List.replicate (c * k) (W ++ [x])
  | 0 => by simp [waysStep]
  | c + 1 => by
    rw [List.replicate_succ, show W :: List.replicate c W = [W] ++ List.replicate c W from rfl, waysStep_app, step_rep W row x k h c]
    have e : waysStep [W] row = List.replicate k (W ++ [x]) := by
      simp only [waysStep, List.flatMap_cons, List.flatMap_nil, List.append_nil, h, List.map_replicate]
    rw [e, List.replicate_append_replicate]
    congr 1
    rw [Nat.add_mul]; omega
theorem ways_given (H : Hous n ls ow rm) (K : Kahn n (pdOf ls ow) Gs R) : ∀ m, m ≤ Gs.length → ((Gs.take m).map ls).foldl waysStep [[]] = List.replicate (copiesOf ls rm (Gs.take m)) ((Gs.take m).map rm)
  | 0, _ => rfl
  | m + 1, hm => by
    obtain ⟨g, hg⟩ : ∃ g, Gs[m]? = some g := ⟨Gs[m], List.getElem?_eq_getElem (by omega)⟩
    have hgm := List.mem_of_getElem? hg
    have hnot : g ∉ Gs.take m := by
      intro h
      obtain ⟨j, hj⟩ := List.getElem?_of_mem h
      have hj' := (List.getElem?_eq_some_iff.mp hj).1
      rw [List.length_take] at hj'
      rw [List.getElem?_take_of_lt (by omega)] at hj
      have := nodup_inj K.nodG hj hg
      omega
    rw [List.take_add_one, hg]
    simp only [Option.toList_some, List.map_append, List.foldl_append, List.map_cons, List.map_nil, List.foldl_cons, List.foldl_nil]
    rw [ways_given H K m (by omega)]
    have hl := left_rep H (Gs := Gs.take m) (fun x hx => K.rngG x (List.mem_of_mem_take hx)) (K.rngG g hgm) hnot (K.cl m g hg)
    rw [step_rep _ _ _ _ hl]
    congr 1
    unfold copiesOf; rw [List.foldl_append]; rfl
/-- the second half: all ways -/
theorem ways_all (H : Hous n ls ow rm) (K : Kahn n (pdOf ls ow) Gs R) (rest : List Int) :
    waysIx ((Gs ++ rest).map ls) = (List.replicate (copiesOf ls rm Gs) ((waysIx (rest.map (leftOf ls rm Gs))).map (Gs.map rm ++ ·))).flatten := by
  have e := ways_given H K Gs.length (Nat.le_refl _)
  rw [List.take_length] at e
  unfold waysIx
  rw [List.map_append, List.foldl_append, e, ways_rep]
  congr 2
  have := ways_pre (Gs.map rm) (rest.map ls) [[]]
  rw [show ([[]] : List (List Nat)).map (Gs.map rm ++ ·) = [Gs.map rm] from by simp, List.map_map] at this
  exact this
end

end
section
/-- w picks from each row -/
def Picks : List Nat → List (List Nat) → Prop
  | [], [] => True
  | a :: w, r :: rs => a ∈ r ∧ Picks w rs
  | _, _ => False
theorem picks_snoc (x : Nat) (row : List Nat) : ∀ (w : List Nat) (rows : List (List Nat)), Picks (w ++ [x]) (rows ++ [row]) ↔ Picks w rows ∧ x ∈ row
  | [], [] => by simp [Picks]
  | a :: w, r :: rs => by
    show a ∈ r ∧ Picks (w ++ [x]) (rs ++ [row]) ↔ _
    rw [picks_snoc x row w rs]
    exact and_assoc.symm
  | [], r :: rs => by
    constructor
    · rintro ⟨_, h⟩
      cases rs with
      | nil => exact h.elim
      | cons _ _ => exact h.elim
    · rintro ⟨h, _⟩; exact h.elim
  | a :: w, [] => by
    constructor
    · rintro ⟨_, h⟩
      cases w with
      | nil => exact h.elim
      | cons _ _ => exact h.elim
    · rintro ⟨h, _⟩; exact h.elim
theorem picks_nil {w : List Nat} : Picks w [] ↔ w = [] := by cases w <;> simp [Picks]
theorem picks_len : ∀ {w : List Nat} {rows : List (List Nat)}, Picks w rows → w.length = rows.length
  | [], [], _ => rfl
  | _ :: _, _ :: _, h => by simp [picks_len h.2]
  | [], _ :: _, h => h.elim
  | _ :: _, [], h => h.elim
theorem picks_at : ∀ {w : List Nat} {rows : List (List Nat)}, Picks w rows → ∀ {i : Nat} {a : Nat} {r : List Nat}, w[i]? = some a → rows[i]? = some r → a ∈ r
  | _ :: _, _ :: _, h, 0, _, _, h1, h2 => by simp at h1 h2; subst h1 h2; exact h.1
  | _ :: _, _ :: _, h, i + 1, _, _, h1, h2 => picks_at h.2 (by simpa using h1) (by simpa using h2)
  | [], [], _, _, _, _, h1, _ => by simp at h1
  | [], _ :: _, h, _, _, _, _, _ => h.elim
  | _ :: _, [], h, _, _, _, _, _ => h.elim
theorem picks_map {α : Type} (f : α → Nat) (r : α → List Nat) : ∀ l : List α, (∀ x ∈ l, f x ∈ r x) → Picks (l.map f) (l.map r)
  | [], _ => trivial
  | x :: t, h => ⟨h x (.head _), picks_map f r t fun y hy => h y (.tail _ hy)⟩
theorem list_snoc {α : Type} (l : List α) : l = [] ∨ ∃ t x, l = t ++ [x] := by
  cases h : l.reverse with
  | nil => exact .inl (List.reverse_eq_nil_iff.mp h)
  | cons a t => exact .inr ⟨t.reverse, a, by rw [← List.reverse_reverse l, h, List.reverse_cons]⟩
theorem waysStep_mem {ws : List (List Nat)} {row w : List Nat} : w ∈ waysStep ws row ↔ ∃ w' ∈ ws, ∃ x ∈ row, x ∉ w' ∧ w = w' ++ [x] := by
  unfold waysStep
  rw [List.mem_flatMap]
  constructor
  · rintro ⟨w', hw, h⟩
    obtain ⟨x, hx, rfl⟩ := List.mem_map.mp h
    obtain ⟨h1, h2⟩ := List.mem_filter.mp hx
    exact ⟨w', hw, x, h1, by simpa using h2, rfl⟩
  · rintro ⟨w', hw, x, h1, h2, rfl⟩
    exact ⟨w', hw, List.mem_map.mpr ⟨x, List.mem_filter.mpr ⟨h1, by simpa using h2⟩, rfl⟩⟩
theorem ways_mem : ∀ (k : Nat) (rows : List (List Nat)), rows.length = k → ∀ w, w ∈ waysIx rows ↔ w.Nodup ∧ Picks w rows
  | 0, rows, hk, w => by
    obtain rfl := List.length_eq_zero_iff.mp hk
    show w ∈ [[]] ↔ _
    rw [List.mem_singleton, picks_nil]
    exact ⟨fun h => ⟨h ▸ List.nodup_nil, h⟩, fun h => h.2⟩
  | k + 1, rows, hk, w => by
    rcases list_snoc rows with rfl | ⟨t, row, rfl⟩
    · cases hk
    · rw [List.length_append, List.length_singleton] at hk
      have e : waysIx (t ++ [row]) = waysStep (waysIx t) row := by unfold waysIx; rw [List.foldl_append]; rfl
      rw [e, waysStep_mem]
      constructor
      · rintro ⟨w', hw, x, h1, h2, rfl⟩
        obtain ⟨h3, h4⟩ := (ways_mem k t (by omega) w').mp hw
        exact ⟨by rw [List.nodup_append]; exact ⟨h3, by simp, fun a ha b hb e => h2 (by rw [← List.mem_singleton.mp hb, ← e]; exact ha)⟩, (picks_snoc x row w' t).mpr ⟨h4, h1⟩⟩
      · rintro ⟨h1, h2⟩
        rcases list_snoc w with rfl | ⟨w', x, rfl⟩
        · have := picks_len h2; simp at this
        · obtain ⟨h3, h4⟩ := (picks_snoc x row w' t).mp h2
          rw [List.nodup_append] at h1
          exact ⟨w', (ways_mem k t (by omega) w').mpr ⟨h1.1, h3⟩, x, h4, fun h => h1.2.2 x h x (by simp) rfl, rfl⟩
section
variable {n : Nat} {ls : Int → List Nat} {ow : Nat → Int} {rm : Int → Nat} {od : List Int}
/-- an order of all guests -/
structure Order (n : Nat) (od : List Int) : Prop where
  nod : od.Nodup
  mem : ∀ g, g ∈ od ↔ rng n g
theorem sum_le {α : Type} (a b : α → Nat) : ∀ l : List α, (∀ x ∈ l, a x ≤ b x) → (l.map a).sum ≤ (l.map b).sum
  | [], _ => Nat.le_refl _
  | x :: t, h => by
    have := h x (.head _)
    have := sum_le a b t fun y hy => h y (.tail _ hy)
    simp only [List.map_cons, List.sum_cons]; omega
theorem sum_lt {α : Type} (a b : α → Nat) : ∀ l : List α, (∀ x ∈ l, a x ≤ b x) → (l.map a).sum = (l.map b).sum → ∀ x ∈ l, a x = b x
  | [], _, _, _, h => nomatch h
  | x :: t, h, e, y, hy => by
    have h1 := h x (.head _)
    have h2 := sum_le a b t fun z hz => h z (.tail _ hz)
    simp only [List.map_cons, List.sum_cons] at e
    rcases List.mem_cons.mp hy with rfl | hy
    · omega
    · exact sum_lt a b t (fun z hz => h z (.tail _ hz)) (by omega) y hy
theorem perm_of_len {l l' : List Int} (h1 : l.Nodup) (h2 : ∀ x ∈ l, x ∈ l') (h3 : l'.Nodup) (h4 : l.length = l'.length) : l.Perm l' := by
  rw [List.perm_ext_iff_of_nodup h1 h3]
  refine fun x => ⟨h2 x, fun hx => Classical.byContradiction fun hn => ?_⟩
  have := nod_le (l := l) (keys := l'.erase x) h1 fun k hk => (List.mem_erase_of_ne fun (e : k = x) => hn (e ▸ hk)).mpr (h2 k hk)
  rw [List.length_erase_of_mem hx] at this
  have := List.length_pos_of_mem hx
  omega
theorem ranked_one (H : Hous n ls ow rm) (O : Order n od) (rank : Int → Nat) (hr : ∀ g, rng n g → ∀ p ∈ pdOf ls ow g, rank g < rank p) {w : List Nat} (hw : w ∈ waysIx (od.map ls)) : w = od.map rm := by
  obtain ⟨hn, hp⟩ := (ways_mem _ _ rfl w).mp hw
  have hl := picks_len hp
  rw [List.length_map] at hl
  have hlt : ∀ {j : Nat} {a : Nat} {g : Int}, w[j]? = some a → od[j]? = some g → a ∈ ls g ∧ a < n ∧ rng n g := fun {j a g} h1 h2 => by
    have hg := (O.mem g).mp (List.mem_of_getElem? h2)
    have := picks_at hp h1 (by rw [List.getElem?_map, h2]; rfl)
    exact ⟨this, H.h1 g hg a this, hg⟩
  have hwn : ∀ a ∈ w, a < n := fun a ha => by
    obtain ⟨j, hj⟩ := List.getElem?_of_mem ha
    have := (List.getElem?_eq_some_iff.mp hj).1
    exact (hlt hj (List.getElem?_eq_getElem (by omega))).2.1
  have hnd : (w.map ow).Nodup := by
    rw [List.Nodup, List.pairwise_map]
    exact hn.imp_of_mem fun {a b} ha hb hne e => hne (by rw [← H.h4 a (hwn a ha), e, H.h4 b (hwn b hb)])
  have hperm : (w.map ow).Perm od := perm_of_len hnd (fun x hx => by
    obtain ⟨a, ha, rfl⟩ := List.mem_map.mp hx
    exact (O.mem _).mpr (H.h2 a (hwn a ha))) O.nod (by rw [List.length_map]; exact hl)
  have hsum : ((w.map ow).map rank).sum = (od.map rank).sum := (hperm.map rank).sum_nat
  have hz : (List.range od.length).map (fun j => rank (ow (w.getD j 0))) = (w.map ow).map rank := by
    apply List.ext_getElem
    · simp [hl]
    · intro j h1 h2
      simp only [List.length_map, List.length_range] at h1
      simp only [List.getElem_map, List.getElem_range]
      rw [List.getD_eq_getElem?_getD, List.getElem?_eq_getElem (by omega)]; rfl
  have hz2 : (List.range od.length).map (fun j => rank (od.getD j 0)) = od.map rank := by
    apply List.ext_getElem
    · simp
    · intro j h1 h2
      simp only [List.length_map, List.length_range] at h1
      simp only [List.getElem_map, List.getElem_range]
      rw [List.getD_eq_getElem?_getD, List.getElem?_eq_getElem (by omega)]; rfl
  rw [← hz, ← hz2] at hsum
  have hcase : ∀ j, j < od.length → ∃ a g, w[j]? = some a ∧ od[j]? = some g ∧ (ow a = g ∨ rank g < rank (ow a)) := fun j hj => by
    have e1 : w[j]? = some w[j] := List.getElem?_eq_getElem (by omega)
    have e2 : od[j]? = some od[j] := List.getElem?_eq_getElem hj
    obtain ⟨h1, h2, h3⟩ := hlt e1 e2
    refine ⟨_, _, e1, e2, ?_⟩
    by_cases e : ow w[j] = od[j]
    · exact .inl e
    · exact .inr (hr _ h3 _ (pd_mem.mpr ⟨⟨_, h1, rfl⟩, e⟩))
  have heq := sum_lt (fun j => rank (od.getD j 0)) (fun j => rank (ow (w.getD j 0))) (List.range od.length) (fun j hj => by
    obtain ⟨a, g, e1, e2, h⟩ := hcase j (List.mem_range.mp hj)
    simp only [List.getD_eq_getElem?_getD, e1, e2, Option.getD_some]
    rcases h with h | h
    · rw [h]; exact Nat.le_refl _
    · omega) hsum.symm
  apply List.ext_getElem
  · rw [List.length_map]; exact hl
  · intro j h1 h2
    rw [List.length_map] at h2
    obtain ⟨a, g, e1, e2, h⟩ := hcase j h2
    have := heq j (List.mem_range.mpr h2)
    simp only [List.getD_eq_getElem?_getD, e1, e2, Option.getD_some] at this
    have ho : ow a = g := h.resolve_right (by omega)
    have ha : a < n := (hlt e1 e2).2.1
    rw [List.getElem?_eq_getElem h1] at e1
    rw [List.getElem?_eq_getElem h2] at e2
    rw [List.getElem_map, Option.some.inj e1, Option.some.inj e2, ← ho, H.h4 a ha]
theorem own_way (H : Hous n ls ow rm) (O : Order n od) : od.map rm ∈ waysIx (od.map ls) := by
  refine (ways_mem _ _ rfl _).mpr ⟨?_, picks_map _ _ _ fun g hg => H.h5 g ((O.mem g).mp hg)⟩
  rw [List.Nodup, List.pairwise_map]
  exact O.nod.imp_of_mem fun {a b} ha hb hne e => hne (by rw [← (H.h3 a ((O.mem a).mp ha)).2, e, (H.h3 b ((O.mem b).mp hb)).2])
end

end
section
section
variable {r : Int → Int → Prop}
/-- a closed walk -/
def Walk (r : Int → Int → Prop) (k : Nat) (c : Nat → Int) : Prop := (∀ i, i < k → r (c i) (c (i + 1))) ∧ c k = c 0
theorem walk_of {v u : Int} (h : Relation.TransGen r v u) : ∃ (k : Nat) (c : Nat → Int), 0 < k ∧ c 0 = v ∧ c k = u ∧ ∀ i, i < k → r (c i) (c (i + 1)) := by
  induction h with
  | @single b h =>
    refine ⟨1, fun i => if i = 0 then v else b, by decide, rfl, rfl, fun i hi => ?_⟩
    obtain rfl : i = 0 := by omega
    exact h
  | @tail b d _ h ih =>
    obtain ⟨k, c, h0, h1, h2, h3⟩ := ih
    refine ⟨k + 1, fun i => if i ≤ k then c i else d, by omega, by simp [h1], if_neg (by omega), fun i hi => ?_⟩
    by_cases e : i < k
    · simp only [show i ≤ k by omega, show i + 1 ≤ k by omega, if_true]; exact h3 i e
    · obtain rfl : i = k := by omega
      simp only [Nat.le_refl, if_true, show ¬ i + 1 ≤ i by omega, if_false]; rw [h2]; exact h
theorem ring_min : ∀ (k : Nat) (c : Nat → Int), 0 < k → Walk r k c → ∃ (k' : Nat) (c' : Nat → Int), 0 < k' ∧ Walk r k' c' ∧ ∀ i j, i < j → j < k' → c' i ≠ c' j := by
  intro k
  induction k using Nat.strongRecOn with
  | ind k ih =>
    intro c h0 hw
    by_cases h : ∀ i j, i < j → j < k → c i ≠ c j
    · exact ⟨k, c, h0, hw, h⟩
    · obtain ⟨i, j, h1, h2, h3⟩ : ∃ i j, i < j ∧ j < k ∧ c i = c j := by
        apply Classical.byContradiction; intro hn
        exact h fun i j h1 h2 h3 => hn ⟨i, j, h1, h2, h3⟩
      refine ih (j - i) (by omega) (fun t => c (i + t)) (by omega) ⟨fun t ht => ?_, ?_⟩
      · exact hw.1 (i + t) (by omega)
      · show c (i + (j - i)) = c (i + 0)
        rw [show i + (j - i) = j by omega, Nat.add_zero, h3]
end
section
variable {n : Nat} {ls : Int → List Nat} {ow : Nat → Int} {rm : Int → Nat} {od : List Int}
open Classical in
/-- each in the ring takes the room of the one behind -/
noncomputable def prOf (k : Nat) (c : Nat → Int) (g : Int) : Int := if h : ∃ i, i < k ∧ c (i + 1) = g then c h.choose else g
theorem pr_at {k : Nat} {c : Nat → Int} {g : Int} (h : ∃ i, i < k ∧ c (i + 1) = g) : ∃ i, i < k ∧ c (i + 1) = g ∧ prOf k c g = c i := by
  refine ⟨h.choose, h.choose_spec.1, h.choose_spec.2, ?_⟩
  unfold prOf; rw [dif_pos h]
theorem pr_off {k : Nat} {c : Nat → Int} {g : Int} (h : ¬ ∃ i, i < k ∧ c (i + 1) = g) : prOf k c g = g := by unfold prOf; rw [dif_neg h]
theorem ring_two (H : Hous n ls ow rm) (O : Order n od) {v : Int} (hv : Relation.TransGen (fun a b => rng n b ∧ a ∈ pdOf ls ow b) v v) : ∃ w ∈ waysIx (od.map ls), w ≠ od.map rm := by
  obtain ⟨k0, c0, a0, a1, a2, a3⟩ := walk_of hv
  obtain ⟨k, c, hk, ⟨hw, hc⟩, hmin⟩ := ring_min (r := fun a b => rng n b ∧ a ∈ pdOf ls ow b) k0 c0 a0 ⟨a3, by rw [a2, a1]⟩
  have inj : ∀ i j, i < k → j < k → c i = c j → i = j := fun i j hi hj e => by
    rcases Nat.lt_trichotomy i j with h | h | h
    · exact absurd e (hmin i j h hj)
    · exact h
    · exact absurd e.symm (hmin j i h hi)
  have on : ∀ i, i < k → ∃ j, j < k ∧ c (j + 1) = c i := fun i hi => by
    cases i with
    | zero => exact ⟨k - 1, by omega, by rw [show k - 1 + 1 = k by omega, hc]⟩
    | succ i => exact ⟨i, by omega, rfl⟩
  have prR : ∀ g, rng n g → rng n (prOf k c g) ∧ (prOf k c g = g ∨ prOf k c g ∈ pdOf ls ow g) := fun g hg => by
    by_cases h : ∃ i, i < k ∧ c (i + 1) = g
    · obtain ⟨i, hi, e, e2⟩ := pr_at h
      have := hw i hi
      rw [e] at this
      rw [e2]
      exact ⟨pd_rng H hg this.2, .inr this.2⟩
    · rw [pr_off h]; exact ⟨hg, .inl rfl⟩
  have prI : ∀ g g', prOf k c g = prOf k c g' → g = g' := fun g g' e => by
    by_cases h : ∃ i, i < k ∧ c (i + 1) = g
    · obtain ⟨i, hi, e1, e2⟩ := pr_at h
      by_cases h' : ∃ i, i < k ∧ c (i + 1) = g'
      · obtain ⟨i', hi', e1', e2'⟩ := pr_at h'
        rw [e2, e2'] at e
        rw [← e1, ← e1', inj i i' hi hi' e]
      · rw [e2, pr_off h'] at e
        exact absurd (e ▸ on i hi) h'
    · by_cases h' : ∃ i, i < k ∧ c (i + 1) = g'
      · obtain ⟨i', hi', e1', e2'⟩ := pr_at h'
        rw [e2', pr_off h] at e
        exact absurd (e ▸ on i' hi') h
      · rw [pr_off h, pr_off h'] at e; exact e
  refine ⟨od.map fun g => rm (prOf k c g), (ways_mem _ _ rfl _).mpr ⟨?_, picks_map _ _ _ fun g hg => ?_⟩, fun e => ?_⟩
  · rw [List.Nodup, List.pairwise_map]
    refine O.nod.imp_of_mem fun {a b} ha hb hne e => hne (prI a b ?_)
    rw [← (H.h3 _ (prR a ((O.mem a).mp ha)).1).2, e, (H.h3 _ (prR b ((O.mem b).mp hb)).1).2]
  · have hg' := (O.mem g).mp hg
    rcases (prR g hg').2 with e | e
    · rw [e]; exact H.h5 g hg'
    · obtain ⟨⟨i, hi, e2⟩, _⟩ := pd_mem.mp e
      rw [← e2, H.h4 i (H.h1 g hg' i hi)]; exact hi
  · have h1 := hw 0 hk
    have hg : c 1 ∈ od := (O.mem _).mpr h1.1
    obtain ⟨j, hj⟩ := List.getElem?_of_mem hg
    have e3 := congrArg (fun l : List Nat => l[j]?) e
    simp only [List.getElem?_map, hj, Option.map_some, Option.some.injEq] at e3
    obtain ⟨i, hi, e4, e5⟩ := pr_at (k := k) (c := c) ⟨0, hk, rfl⟩
    have e6 : prOf k c (c 1) = c 1 := by rw [← (H.h3 _ (prR _ h1.1).1).2, e3, (H.h3 _ h1.1).2]
    rcases (prR _ h1.1).2 with h | h
    · have := hw i hi
      rw [e4, ← e5, e6] at this
      exact pd_ne _ _ this.2 rfl
    · rw [e6] at h; exact pd_ne _ _ h rfl
end

end
section
section
variable {dr : Int} {n : Nat}
def lsOf (dr : Int) (n : Nat) (g : Int) : List Nat := rowIx dr n g.toNat
def owOf (dr : Int) (n : Nat) (i : Nat) : Int := ((i : Int) + dr) % n
def rmOf (dr : Int) (n : Nat) (g : Int) : Nat := ((g - dr) % n).toNat
theorem row_mem {g i : Nat} : i ∈ rowIx dr n g ↔ i < n ∧ hitIx dr n g i = true := by
  unfold rowIx
  simp only
  split <;> simp
theorem row_len (hn : n ≤ 5) (g : Nat) : (rowIx dr n g).length ≤ 10 := by
  have h : ((List.range n).filter (hitIx dr n g)).length ≤ n := by
    have := List.length_filter_le (hitIx dr n g) (List.range n)
    rwa [List.length_range] at this
  unfold rowIx
  simp only
  split
  · rw [List.length_append, List.length_reverse]; omega
  · omega
theorem hous (hn : 0 < n) : Hous n (lsOf dr n) (owOf dr n) (rmOf dr n) := by
  have h0 : (0 : Int) < n := by omega
  refine ⟨fun g _ i hi => (row_mem.mp hi).1, fun i _ => ⟨Int.emod_nonneg _ (by omega), Int.emod_lt_of_pos _ h0⟩, fun g hg => ?_, fun i hi => ?_, fun g hg => ?_⟩
  · have h1 : 0 ≤ (g - dr) % n := Int.emod_nonneg _ (by omega)
    have h2 : (g - dr) % n < n := Int.emod_lt_of_pos _ h0
    refine ⟨by unfold rmOf; omega, ?_⟩
    unfold owOf rmOf
    rw [Int.toNat_of_nonneg h1, Int.emod_add_emod, show g - dr + dr = g by omega]
    exact Int.emod_eq_of_lt hg.1 hg.2
  · unfold owOf rmOf
    rw [Int.emod_sub_emod, show (i : Int) + dr - dr = i by omega, Int.emod_eq_of_lt (by omega) (by omega), Int.toNat_natCast]
  · have h1 : 0 ≤ (g - dr) % n := Int.emod_nonneg _ (by omega)
    have h2 : (g - dr) % n < n := Int.emod_lt_of_pos _ h0
    refine row_mem.mpr ⟨by unfold rmOf; omega, ?_⟩
    unfold hitIx rmOf
    rw [Bool.or_eq_true, decide_eq_true_eq]
    refine .inl ?_
    rw [Int.toNat_of_nonneg h1, Int.emod_add_emod, show g - dr + dr = g by omega, Int.emod_eq_of_lt hg.1 hg.2, Int.toNat_of_nonneg hg.1]
end

end
section
open PySem.SeqAt
section
variable {A : Around} {s : Shared} {l b : Addr} {items items2 : Array Value} {α : Type} [DecidableEq α]
theorem all_range (xs ys : List α) (h : xs.length = ys.length) : ((List.range xs.length).all fun j => decide (xs[j]? = ys[j]?)) = decide (xs = ys) := by
  rw [Bool.eq_iff_iff, List.all_eq_true]
  simp only [List.mem_range, decide_eq_true_eq]
  constructor
  · intro hj
    apply List.ext_getElem?
    intro i
    rcases Nat.lt_or_ge i xs.length with q | q
    · exact hj i q
    · rw [List.getElem?_eq_none q, List.getElem?_eq_none (by omega)]
  · rintro rfl i _; rfl
theorem rcLists (xs ys : List α) (hl : s.heap.IsList l items) (hb : s.heap.IsList b items2) (hx : items.size = xs.length) (hy : items2.size = ys.length) (hu : A.units < cLine)
    (he : ∀ j (h1 : j < items.size) (h2 : j < items2.size), EqAt A.in1 s items[j] items2[j] (decide (xs[j]? = ys[j]?))) : RcAt A s (.ref l) (.ref b) (decide (xs = ys)) := by
  by_cases h : xs.length = ys.length
  · have := RcAt.lists hl hb (by omega) hu he
    rw [hx, all_range xs ys h] at this
    exact this
  · have e : decide (xs = ys) = false := by rw [decide_eq_false_iff_not]; exact fun e => h (congrArg List.length e)
    rw [e]
    exact RcAt.lists_lengths hl hb (by rw [bne_iff_ne]; omega) hu
theorem rcnLists (xs ys : List α) (hl : s.heap.IsList l items) (hb : s.heap.IsList b items2) (hx : items.size = xs.length) (hy : items2.size = ys.length) (hu : A.units < cLine)
    (he : ∀ j (h1 : j < items.size) (h2 : j < items2.size), EqAt A.in1 s items[j] items2[j] (decide (xs[j]? = ys[j]?))) : RcNeAt A s (.ref l) (.ref b) (!decide (xs = ys)) := by
  by_cases h : xs.length = ys.length
  · have := RcNeAt.lists hl hb (by omega) hu he
    rw [hx, all_range xs ys h] at this
    exact this
  · have e : decide (xs = ys) = false := by rw [decide_eq_false_iff_not]; exact fun e => h (congrArg List.length e)
    rw [e]
    exact RcNeAt.lists_lengths hl hb (by rw [bne_iff_ne]; omega) hu
end
section
variable {A : Around} {s : Shared} {l b : Addr} {ps qs : List (Nat × Nat)} {is js : List (Int × Nat)} {n k : Nat}
theorem eqLtr (j : Nat) (h1 : j < (lvals ps).toArray.size) (h2 : j < (lvals qs).toArray.size) : EqAt A s (lvals ps).toArray[j] (lvals qs).toArray[j] (decide ((ps.map (·.1))[j]? = (qs.map (·.1))[j]?)) := by
  have k1 : j < ps.length := by simpa [lvals] using h1
  have k2 : j < qs.length := by simpa [lvals] using h2
  have e1 : (lvals ps).toArray[j] = .str (ltr ps[j].1) ps[j].2 := by simp [lvals]
  have e2 : (lvals qs).toArray[j] = .str (ltr qs[j].1) qs[j].2 := by simp [lvals]
  rw [e1, e2]
  have := (eqGives_str (ltr ps[j].1) (ltr qs[j].1) ps[j].2 qs[j].2).at A s
  have e3 : (ltr ps[j].1 == ltr qs[j].1) = decide ((ps.map (·.1))[j]? = (qs.map (·.1))[j]?) := by
    rw [Bool.eq_iff_iff]
    simp [k1, k2, ltr_inj]
  rw [e3] at this
  exact this
theorem eqIval (j : Nat) (h1 : j < (ivals is).toArray.size) (h2 : j < (ivals js).toArray.size) : EqAt A s (ivals is).toArray[j] (ivals js).toArray[j] (decide ((is.map (·.1))[j]? = (js.map (·.1))[j]?)) := by
  have k1 : j < is.length := by simpa [ivals] using h1
  have k2 : j < js.length := by simpa [ivals] using h2
  have e1 : (ivals is).toArray[j] = .int is[j].1 is[j].2 := by simp [ivals]
  have e2 : (ivals js).toArray[j] = .int js[j].1 js[j].2 := by simp [ivals]
  rw [e1, e2]
  have := (MeetsSeq.EqGives.int is[j].1 js[j].1 is[j].2 js[j].2).at A s
  have e3 : (is[j].1 == js[j].1) = decide ((is.map (·.1))[j]? = (js.map (·.1))[j]?) := by
    rw [Bool.eq_iff_iff]
    simp [k1, k2]
  rw [e3] at this
  exact this
theorem rcLtrs (hl : s.heap.get? l = some (listOf (lvals ps).toArray n)) (hb : s.heap.get? b = some (listOf (lvals qs).toArray k)) (hu : A.units < cLine) : RcAt A s (.ref l) (.ref b) (decide (ps.map (·.1) = qs.map (·.1))) :=
  rcLists _ _ (isListH hl) (isListH hb) (by simp [lvals]) (by simp [lvals]) hu fun j h1 h2 => eqLtr j h1 h2
theorem rcnLtrs (hl : s.heap.get? l = some (listOf (lvals ps).toArray n)) (hb : s.heap.get? b = some (listOf (lvals qs).toArray k)) (hu : A.units < cLine) : RcNeAt A s (.ref l) (.ref b) (!decide (ps.map (·.1) = qs.map (·.1))) :=
  rcnLists _ _ (isListH hl) (isListH hb) (by simp [lvals]) (by simp [lvals]) hu fun j h1 h2 => eqLtr j h1 h2
theorem rcnIvals (hl : s.heap.get? l = some (listOf (ivals is).toArray n)) (hb : s.heap.get? b = some (listOf (ivals js).toArray k)) (hu : A.units < cLine) : RcNeAt A s (.ref l) (.ref b) (!decide (is.map (·.1) = js.map (·.1))) :=
  rcnLists _ _ (isListH hl) (isListH hb) (by simp [ivals]) (by simp [ivals]) hu fun j h1 h2 => eqIval j h1 h2
/-- lists of lists of letters -/
theorem rcRows {xs ys : List Rw} (hl : s.heap.get? l = some (listOf (rwRefs xs).toArray n)) (hb : s.heap.get? b = some (listOf (rwRefs ys).toArray k)) (hu : A.units + 1 < cLine)
    (hx : ∀ r ∈ xs, s.heap.get? r.a = some (listOf (lvals r.ps).toArray r.n)) (hy : ∀ r ∈ ys, s.heap.get? r.a = some (listOf (lvals r.ps).toArray r.n)) : RcAt A s (.ref l) (.ref b) (decide (xs.map Rw.ix = ys.map Rw.ix)) := by
  refine rcLists _ _ (isListH hl) (isListH hb) (by simp) (by simp) (by omega) fun j h1 h2 => ?_
  have k1 : j < xs.length := by simpa using h1
  have k2 : j < ys.length := by simpa using h2
  have e1 : (rwRefs xs).toArray[j] = .ref xs[j].a := by simp
  have e2 : (rwRefs ys).toArray[j] = .ref ys[j].a := by simp
  have g1 := hx xs[j] (List.getElem_mem k1)
  have g2 := hy ys[j] (List.getElem_mem k2)
  have e3 : decide ((xs.map Rw.ix)[j]? = (ys.map Rw.ix)[j]?) = decide (xs[j].ps.map (·.1) = ys[j].ps.map (·.1)) := by
    rw [Bool.eq_iff_iff]; simp [k1, k2, Rw.ix]
  rw [e1, e2, e3]
  by_cases e : xs[j].a = ys[j].a
  · rw [← e] at g2
    rw [g1] at g2
    have e4 : lvals xs[j].ps = lvals ys[j].ps := by
      have := congrArg Obj.data (Option.some.inj g2)
      injection this with this _
      simpa using this
    have e5 : xs[j].ps.map (·.1) = ys[j].ps.map (·.1) := by
      have := congrArg (fun l => l.map fun v => match v with | .str x _ => x | _ => (default : Str)) e4
      simp only [lvals, List.map_map] at this
      have h6 : xs[j].ps.map (fun p => ltr p.1) = ys[j].ps.map (fun p => ltr p.1) := this
      apply List.ext_getElem?
      intro i
      have h7 := congrArg (fun l => l[i]?) h6
      simp only [List.getElem?_map] at h7 ⊢
      cases q1 : xs[j].ps[i]? <;> cases q2 : ys[j].ps[i]? <;> simp_all [ltr_inj]
    rw [← e, e5, decide_eq_true rfl]
    exact EqAt.same _
  · exact EqAt.of_refs e (rcLtrs g1 g2 (show A.units + 1 < cLine from hu))
end

end
section
theorem keptLtr (ps tk : List (Nat × Nat)) : keptOf (fun v => match v with | .str b _ => tk.any fun q => ltr q.1 == b | _ => false) (lvals ps) = lvals (ps.filter fun p => !(tk.map (·.1)).contains p.1) := by
  unfold keptOf lvals
  rw [List.filter_map]
  congr 1
  refine List.filter_congr fun p hp => ?_
  show (!(tk.any fun q => ltr q.1 == ltr p.1)) = !(tk.map (·.1)).contains p.1
  congr 1
  rw [Bool.eq_iff_iff, List.any_eq_true, List.contains_iff_mem, List.mem_map]
  constructor
  · rintro ⟨q, hq, h⟩; exact ⟨q, hq, ltr_inj.mp (by simpa using h)⟩
  · rintro ⟨q, hq, h⟩; exact ⟨q, hq, by rw [h]; exact beq_self_eq_true _⟩
theorem keptInt (ps : List (Int × Nat)) (k : Int) : keptOf (fun v => match v with | .int b _ => k == b | _ => false) (ivals ps) = ivals (ps.filter fun p => p.1 ≠ k) := by
  unfold keptOf
  rw [show ivals ps = ps.map fun p => Value.int p.1 p.2 from rfl, List.filter_map, show ivals (ps.filter fun p => p.1 ≠ k) = (ps.filter fun p => p.1 ≠ k).map fun p => Value.int p.1 p.2 from rfl]
  congr 1
  refine List.filter_congr fun p hp => ?_
  show (!(k == p.1)) = decide (p.1 ≠ k)
  rw [Bool.eq_iff_iff, decide_eq_true_eq]
  constructor
  · intro h e; rw [e] at h; simp at h
  · intro h; have : (k == p.1) = false := beq_false_of_ne fun e => h e.symm
    rw [this]; rfl
section
variable {w : World} {A : Around} {s : Shared} {g : Heap} {L l sk : Addr} {e : Env} {m : Str → Option Value} {pre : List (Addr × Obj)} {nv ns : Nat} {Q E : Value → Shared → Prop}
theorem filtF {vs : List Value} {ws : Array Value} {hit : Value → Bool} (F : Fr g L s.heap m) (N : News g L s.heap pre) (nd : Nod pre) (B : Bs w g) (hA : A.frames = some [e]) (he : e.scope.kind ≠ .module ∧ e.frame = some L)
    (hl : (l, listOf vs.toArray nv) ∈ pre) (hsk : (sk, listOf ws ns) ∈ pre) (hhit : ∀ v ∈ vs, ∃ e : Value → Bool, (∀ y, y ∈ ws → MeetsSeq.EqGives y v (e y)) ∧ ws.any e = hit v) (hlen : vs.length ≤ 1000)
    (hroom : A.depth < 420) (hu : A.units < 30) (hh : A.handled = none)
    (hQ : ∀ D n' h' t', Fr g L h' m → News g L h' ((D, listOf (keptOf hit vs).toArray n') :: pre) → Nod ((D, listOf (keptOf hit vs).toArray n') :: pre) → Q (.ref D) { s with heap := h', toks := t' }) :
    wpAny (model PySem.Challenge.pw_ij0208_01 w) A (call (.ref 65) [.ref l, .ref sk]) Q E s := by
  obtain ⟨oL, hoL, hoLd⟩ := frObj F
  have pe : pre ++ ([] ++ []) = pre := by simp
  have N0 : News g L s.heap (pre ++ ([] ++ [])) := by rw [pe]; exact N
  have nd0 : Nod (pre ++ ([] ++ [])) := by rw [pe]; exact nd
  have z0 := preN (oL := oL) N0 nd0
  refine filterSpec (outer := [e]) (FS := [(L, oL)]) (z0 _ hl) (z0 _ hsk) hhit hlen (haveN N0 hoL) (bsHideN (oL := oL) F B N0) (nodN (oL := oL) N0 nd0) hA ⟨he.1, he.2, hoLd, trivial⟩ hroom hu hh ?_
  rintro D FS' n' h' t' hs O
  obtain ⟨oL', FS₁, rfl, hsl, hs1⟩ := slotCons hs
  have : FS₁ = [] := by cases FS₁ with | nil => rfl | cons => exact hs1.elim
  subst this
  obtain ⟨F', N', nd'⟩ := backN (pre := pre) (W := []) (FS := []) (W' := [(D, listOf (keptOf hit vs).toArray n')]) (FS' := []) F N0 nd0 hoL O hsl
  have pm : (pre ++ ([(D, listOf (keptOf hit vs).toArray n')] ++ [])).Perm ((D, listOf (keptOf hit vs).toArray n') :: pre) := by simpa using List.perm_append_singleton _ _
  exact hQ D n' h' t' F' (newsPerm N' pm.symm) (nodPerm nd' pm.symm)
theorem filtL {ps tk : List (Nat × Nat)} (F : Fr g L s.heap m) (N : News g L s.heap pre) (nd : Nod pre) (B : Bs w g) (hA : A.frames = some [e]) (he : e.scope.kind ≠ .module ∧ e.frame = some L)
    (hl : (l, listOf (lvals ps).toArray nv) ∈ pre) (hsk : (sk, listOf (lvals tk).toArray ns) ∈ pre) (hlen : ps.length ≤ 1000)
    (hroom : A.depth < 420) (hu : A.units < 30) (hh : A.handled = none)
    (hQ : ∀ D n' h' t', Fr g L h' m → News g L h' ((D, listOf (lvals (ps.filter fun p => !(tk.map (·.1)).contains p.1)).toArray n') :: pre) → Nod ((D, listOf (lvals (ps.filter fun p => !(tk.map (·.1)).contains p.1)).toArray n') :: pre) → Q (.ref D) { s with heap := h', toks := t' }) :
    wpAny (model PySem.Challenge.pw_ij0208_01 w) A (call (.ref 65) [.ref l, .ref sk]) Q E s := by
  refine filtF F N nd B hA he hl hsk (fun v hv => ?_) (by simpa [lvals] using hlen) hroom hu hh (hit := fun v => match v with | .str b _ => tk.any fun q => ltr q.1 == b | _ => false) ?_
  · obtain ⟨p, hp, rfl⟩ := List.mem_map.mp hv
    refine ⟨fun y => match y with | .str a _ => a == ltr p.1 | _ => false, fun y hy => ?_, ?_⟩
    · obtain ⟨q, hq, rfl⟩ := List.mem_map.mp (List.mem_toArray.mp hy)
      exact eqGives_str _ _ _ _
    · rw [List.any_toArray, lvals, List.any_map]; rfl
  · intro D n' h' t' F' N' nd'
    rw [keptLtr] at N' nd'
    exact hQ D n' h' t' F' N' nd'
theorem filtI {ps : List (Int × Nat)} {k : Int} {t : Tok} (F : Fr g L s.heap m) (N : News g L s.heap pre) (nd : Nod pre) (B : Bs w g) (hA : A.frames = some [e]) (he : e.scope.kind ≠ .module ∧ e.frame = some L)
    (hl : (l, listOf (ivals ps).toArray nv) ∈ pre) (hsk : (sk, listOf #[.int k t] ns) ∈ pre) (hlen : ps.length ≤ 1000)
    (hroom : A.depth < 420) (hu : A.units < 30) (hh : A.handled = none)
    (hQ : ∀ D n' h' t', Fr g L h' m → News g L h' ((D, listOf (ivals (ps.filter fun p => p.1 ≠ k)).toArray n') :: pre) → Nod ((D, listOf (ivals (ps.filter fun p => p.1 ≠ k)).toArray n') :: pre) → Q (.ref D) { s with heap := h', toks := t' }) :
    wpAny (model PySem.Challenge.pw_ij0208_01 w) A (call (.ref 65) [.ref l, .ref sk]) Q E s := by
  refine filtF F N nd B hA he hl hsk (fun v hv => ?_) (by simpa [ivals] using hlen) hroom hu hh (hit := fun v => match v with | .int b _ => k == b | _ => false) ?_
  · obtain ⟨p, hp, rfl⟩ := List.mem_map.mp hv
    refine ⟨fun y => match y with | .int a _ => a == p.1 | _ => false, fun y hy => ?_, ?_⟩
    · obtain rfl : y = .int k t := by simpa using hy
      exact MeetsSeq.EqGives.int _ _ _ _
    · simp
  · intro D n' h' t' F' N' nd'
    rw [keptInt] at N' nd'
    exact hQ D n' h' t' F' N' nd'
end
theorem ivals_snoc (rs : List (Int × Nat)) (i : Int) (t : Nat) : ivals rs ++ [.int i t] = ivals (rs ++ [(i, t)]) := by simp
theorem hitLenI {ps : List (Int × Nat)} {i : Nat} {p : Int × Nat} (h : ps.length ≤ i) : (ps ++ [p]).length ≤ i + 1 := by simp; omega
theorem restT1 {f : Int → Bool} {rs : List (Int × Nat)} {i t : Nat} (hz : f i = true) (h : rs.map (·.1) = ((List.range i).map fun (k : Nat) => (k : Int)).filter f) : (rs ++ [((i : Int), t)]).map (·.1) = ((List.range (i + 1)).map fun (k : Nat) => (k : Int)).filter f := by
  rw [List.map_append, h, List.range_succ, List.map_append, List.filter_append]; simp [hz]
theorem restF1 {f : Int → Bool} {rs : List (Int × Nat)} {i : Nat} (hz : f i = false) (h : rs.map (·.1) = ((List.range i).map fun (k : Nat) => (k : Int)).filter f) : rs.map (·.1) = ((List.range (i + 1)).map fun (k : Nat) => (k : Int)).filter f := by
  rw [h, List.range_succ, List.map_append, List.filter_append]; simp [hz]
theorem ivals_ints : ∀ rs : List (Int × Nat), IntsAre (ivals rs) (rs.map (·.1))
  | [] => .nil
  | p :: r => .cons _ _ (ivals_ints r)
theorem any_int (ns : List Int) (i : Int) : ns.any (· == i) = ns.contains i := by
  rw [Bool.eq_iff_iff]; simp
theorem notInIval {prog : Program} {w : World} {A : Around} {E : Value → Shared → Prop} {s : Shared} {l : Addr} {rs : List (Int × Nat)} {n : Nat} {i : Int} {t : Tok} {Q : Value → Shared → Prop} (hl : s.heap.get? l = some (listOf (ivals rs).toArray n))
    (h : ∀ b, b = !(rs.map (·.1)).contains i → Q (.bool b) s) : wpAny (model prog w) A (compareOp .NotIn (.int i t) (.ref l)) Q E s :=
  notin_list_ints (isListH hl) (ivals_ints rs) (h _ (by rw [any_int]))
theorem itemRow {prog : Program} {w : World} {A : Around} {E : Value → Shared → Prop} {s : Shared} {value slice : PySem.Expr} {l : Addr} {rows : List Rw} {r : Rw} {n : Nat} {k : Int} {t : Tok} {Q : Value → Shared → Prop} (hl : s.heap.get? l = some (listOf (rwRefs rows).toArray n))
    (h0 : 0 ≤ k) (h1 : k < 100) (hr : rows[k.toNat]? = some r) (h : Q (.ref r.a) s)
    (hs : subscripted slice false (.ref l) (.int k t) = operate [.ref l, .int k t] (getItem (.ref l) (.int k t)) := by with_unfolding_all rfl) (hg : ∀ r, letTemporaryGo value (.ref l) r = pure () := by intro _; with_unfolding_all rfl) :
    wpAny (model prog w) A (subscriptTail value slice (.ref l) (.int k t)) Q E s :=
  subscriptTail_builtin (isListH hl).typeIs slot_list_getitem.lookup (wpAny_getItem_list (isListH hl) h0 (by omega) (by simp [hr]) h) hs hg
def restOf (n : Nat) (Gs : List Int) : List Int := ((List.range n).map fun (k : Nat) => (k : Int)).filter fun k => !Gs.contains k
theorem rest_mem {n : Nat} {Gs : List Int} {g : Int} : g ∈ restOf n Gs ↔ rng n g ∧ g ∉ Gs := by
  unfold restOf rng
  rw [List.mem_filter, List.mem_map]
  constructor
  · rintro ⟨⟨k, hk, rfl⟩, h⟩
    have := List.mem_range.mp hk
    exact ⟨by omega, by simpa using h⟩
  · rintro ⟨⟨h0, h1⟩, h2⟩
    exact ⟨⟨g.toNat, List.mem_range.mpr (by omega), by omega⟩, by simpa using h2⟩
theorem rest_nod (n : Nat) (Gs : List Int) : (restOf n Gs).Nodup := by
  unfold restOf
  refine List.Pairwise.filter _ (List.pairwise_map.mpr ?_)
  exact List.Pairwise.imp (fun h e => h (by omega)) (List.nodup_range (n := n))
theorem ordOf {n : Nat} {pd : Int → List Int} {Gs R : List Int} (K : Kahn n pd Gs R) : Order n (Gs ++ restOf n Gs) := by
  refine ⟨?_, fun g => ?_⟩
  · rw [List.nodup_append]; exact ⟨K.nodG, rest_nod n Gs, fun a ha b hb e => (rest_mem.mp hb).2 (e ▸ ha)⟩
  · rw [List.mem_append, rest_mem]
    constructor
    · rintro (h | h)
      · exact K.rngG g h
      · exact h.1
    · intro h
      by_cases q : g ∈ Gs
      · exact .inl q
      · exact .inr ⟨h, q⟩
theorem Order.len {n : Nat} {od : List Int} (O : Order n od) : od.length ≤ n := by
  have := nod_le (l := od) (keys := restOf n []) O.nod fun k hk => rest_mem.mpr ⟨(O.mem k).mp hk, by simp⟩
  have h2 : (restOf n []).length ≤ n := by
    have := List.length_filter_le (fun k => !([] : List Int).contains k) ((List.range n).map fun (k : Nat) => (k : Int))
    rw [List.length_map, List.length_range] at this
    exact this
  omega
theorem rowAt {dr : Int} {n : Nat} {rows : List Rw} (hrl : rows.length = n) (hrows : ∀ (g : Nat) row, rows[g]? = some row → row.ps.map (·.1) = rowIx dr n g) {k : Int} (hk : rng n k) : ∃ r, rows[k.toNat]? = some r ∧ r.ix = lsOf dr n k := by
  have h : k.toNat < rows.length := by unfold rng at hk; omega
  exact ⟨rows[k.toNat], List.getElem?_eq_getElem h, hrows _ _ (List.getElem?_eq_getElem h)⟩
theorem callOut {g h h' : Heap} {L : Addr} {m : Str → Option Value} {news W : List (Addr × Obj)} (F : Fr g L h m) (N : News g L h news) (nd : Nod news) (O : Out h W h') :
    Fr g L h' m ∧ News g L h' (news ++ W) ∧ Nod (news ++ W) := by
  have st : h.StaysIn h' := O.keep
  refine ⟨frStays F st, fun p hp => ?_, ?_⟩
  · rcases List.mem_append.mp hp with hp | hp
    · exact newsStays N st p hp
    · have q := O.own p hp
      obtain ⟨oL, es, ep, hL, r⟩ := F.ns
      refine ⟨q.1, fun e => ?_, ?_⟩
      · have := q.2; rw [e, hL] at this; cases this
      · cases e : g.get? p.1 with
        | none => rfl
        | some o => have := q.2; rw [F.keep _ _ e] at this; cases this
  · unfold Nod
    rw [List.map_append, List.nodup_append]
    refine ⟨nd, O.nod, fun a ha b hb e => ?_⟩
    obtain ⟨p, hp, rfl⟩ := List.mem_map.mp ha
    obtain ⟨q, hq, rfl⟩ := List.mem_map.mp hb
    have := (O.own q hq).2
    rw [← e, (N p hp).1] at this; cases this
theorem neLtrs {prog : Program} {w : World} {A : Around} {E : Value → Shared → Prop} {s : Shared} {r r' : Rw} {Q : Value → Shared → Prop} (hl : s.heap.get? r.a = some (listOf (lvals r.ps).toArray r.n)) (hb : s.heap.get? r'.a = some (listOf (lvals r'.ps).toArray r'.n)) (hu : A.units < cLine)
    (h : ∀ b, b = !decide (r.ix = r'.ix) → Q (.bool b) s) : wpAny (model prog w) A (compareOp .NotEq (.ref r.a) (.ref r'.a)) Q E s := PySem.EqBoolInt.of_rcne (rcnLtrs hl hb hu) (h _ rfl)
theorem neNil {prog : Program} {w : World} {A : Around} {E : Value → Shared → Prop} {s : Shared} {a b : Addr} {vs : List Value} {n k : Nat} {Q : Value → Shared → Prop} (hl : s.heap.get? a = some (listOf vs.toArray n)) (hb : s.heap.get? b = some (listOf #[] k)) (hu : A.units < cLine)
    (h : ∀ b, b = !vs.isEmpty → Q (.bool b) s) : wpAny (model prog w) A (compareOp .NotEq (.ref a) (.ref b)) Q E s := by
  refine PySem.EqBoolInt.of_rcne (rcnLists (vs.map fun _ => ()) [] (isListH hl) (isListH hb) (by simp) rfl hu (fun j h1 h2 => absurd h2 (Nat.not_lt_zero _))) (h _ ?_)
  cases vs <;> rfl
theorem mem_scOf {n : Nat} {pd : Int → List Int} {a b : Int} : b ∈ scOf n pd a ↔ rng n b ∧ a ∈ pd b := by
  rw [← List.count_pos_iff, count_scOf]
  constructor
  · intro h
    by_cases q : 0 ≤ b ∧ b < n
    · rw [if_pos q] at h; exact ⟨q, List.count_pos_iff.mp h⟩
    · rw [if_neg q] at h; omega
  · rintro ⟨h1, h2⟩
    rw [if_pos (show 0 ≤ b ∧ b < n from h1)]; exact List.count_pos_iff.mpr h2
theorem tgMono {r q : Int → Int → Prop} (h : ∀ a b, r a b → q a b) {v u : Int} (t : Relation.TransGen r v u) : Relation.TransGen q v u := by
  induction t with
  | single e => exact .single (h _ _ e)
  | tail _ e ih => exact .tail ih (h _ _ e)
theorem ringTest {n : Nat} {ls : Int → List Nat} {ow : Nat → Int} {rm : Int → Nat} {od : List Int} {ways : List Rw} {r0 : Rw} {rb : Bool} (H : Hous n ls ow rm) (O : Order n od) (hways : ways.map Rw.ix = waysIx (od.map ls)) (hr0 : ways[(0 : Int).toNat]? = some r0)
    (hring : if rb = true then ∃ v, Relation.TransGen (fun a b => b ∈ scOf n (pdOf ls ow) a) v v else ∃ rank : Int → Nat, ∀ g, rng n g → ∀ p ∈ pdOf ls ow g, rank g < rank p) :
    (!(rwRefs (ways.filter fun r => !decide (r.ix = r0.ix))).isEmpty) = rb := by
  have own := own_way H O
  have h0 : r0 ∈ ways := List.mem_of_getElem? hr0
  cases rb with
  | true =>
    rw [if_pos rfl] at hring
    obtain ⟨v, hv⟩ := hring
    obtain ⟨wy, hw1, hw2⟩ := ring_two (od := od) H O (v := v) (tgMono (fun a b h => mem_scOf.mp h) hv)
    rw [← hways] at hw1 own
    obtain ⟨x, hx, rfl⟩ := List.mem_map.mp hw1
    obtain ⟨y, hy, hye⟩ := List.mem_map.mp own
    rw [Bool.not_eq_true', rwRefs]
    by_cases e : x.ix = r0.ix
    · have : y ∈ ways.filter fun r => !decide (r.ix = r0.ix) := List.mem_filter.mpr ⟨hy, by simp; intro q; exact hw2 (by rw [e, ← q, hye])⟩
      cases q : (ways.filter fun r => !decide (r.ix = r0.ix)) with
      | nil => rw [q] at this; cases this
      | cons => rfl
    · have : x ∈ ways.filter fun r => !decide (r.ix = r0.ix) := List.mem_filter.mpr ⟨hx, by simp [e]⟩
      cases q : (ways.filter fun r => !decide (r.ix = r0.ix)) with
      | nil => rw [q] at this; cases this
      | cons => rfl
  | false =>
    rw [if_neg (by decide)] at hring
    obtain ⟨rank, hr⟩ := hring
    have all : ∀ r ∈ ways, r.ix = od.map rm := fun r hr' => ranked_one H O rank hr (by rw [← hways]; exact List.mem_map_of_mem (f := Rw.ix) hr')
    have : (ways.filter fun r => !decide (r.ix = r0.ix)) = [] := List.filter_eq_nil_iff.mpr fun r hr' => by simp [all r hr', all r0 h0]
    rw [this]; rfl
theorem fT {p : Rw → Bool} {ways : List Rw} {i : Nat} {r : Rw} (hr : ways[i]? = some r) (hz : p r = true) : rwRefs ((ways.take i).filter p) ++ [.ref r.a] = rwRefs ((ways.take (i + 1)).filter p) := by
  rw [List.take_add_one, hr, List.filter_append]; simp [rwRefs, hz]
theorem fF {p : Rw → Bool} {ways : List Rw} {i : Nat} {r : Rw} (hr : ways[i]? = some r) (hz : p r = false) : rwRefs ((ways.take i).filter p) = rwRefs ((ways.take (i + 1)).filter p) := by
  rw [List.take_add_one, hr, List.filter_append]; simp [hz]
theorem takeRefs (ways : List Rw) : ways.take (rwRefs ways).toArray.size = ways := List.take_of_length_le (by simp [rwRefs])
theorem left_ix {r : Rw} {ls : Int → List Nat} {rm : Int → Nat} {Gs : List Int} {g : Int} {tk : List (Nat × Nat)} (hr : r.ix = ls g) (htk : tk.map (·.1) = Gs.map rm) : (r.ps.filter fun p => !(tk.map (·.1)).contains p.1).map (·.1) = leftOf ls rm Gs g := by
  unfold leftOf
  rw [← hr, ← htk, Rw.ix, List.filter_map]; rfl
theorem mulListF {prog : Program} {w : World} {A : Around} {E : Value → Shared → Prop} {s : Shared} {g : Heap} {L : Addr} {m : Str → Option Value} {news : List (Addr × Obj)} {l : Addr} {vs : List Value} {n : Nat} {x : Int} {u : Tok} {Q : Value → Shared → Prop}
    (F : Fr g L s.heap m) (N : News g L s.heap news) (nd : Nod news) (hl : s.heap.get? l = some (listOf vs.toArray n)) (h0 : 0 ≤ x) (hhi : x < 2 ^ 63) (hsz : vs.length * x.toNat ≤ 2 ^ 24)
    (h : ∀ D h', Fr g L h' m → News g L h' ((D, listOf (List.replicate x.toNat vs).flatten.toArray 0) :: news) → Nod ((D, listOf (List.replicate x.toNat vs).flatten.toArray 0) :: news) → Q (.ref D) { s with heap := h' }) :
    wpAny (model prog w) A (binaryOp .Mult (.ref l) (.int x u)) Q E s :=
  mul_list F N hl (by omega) hhi (by simpa using hsz) fun h' F' N' => by
    rw [listMul_foldl_if] at N'
    exact h _ h' F' N' (nodCons nd fun q hq => Heap.lt_size (N q hq).1)
theorem repRefs (c : Nat) (xs : List Rw) : (List.replicate c (rwRefs xs)).flatten = rwRefs (List.replicate c xs).flatten := by
  simp [rwRefs, List.map_flatten, List.map_replicate]
theorem lvals_app (a b : List (Nat × Nat)) : lvals (a ++ b) = lvals a ++ lvals b := by simp [lvals]
theorem frPin3 {g h : Heap} {L : Addr} {m : Str → Option Value} {a b c : Str} {v1 v2 v3 : Value} (F : Fr g L h m) (h1 : m a = some v1) (h2 : m b = some v2) (h3 : m c = some v3) :
    Fr g L h fun y => if y = a then some v1 else if y = b then some v2 else if y = c then some v3 else m y := by
  have e : m = fun y => if y = a then some v1 else if y = b then some v2 else if y = c then some v3 else m y := by
    funext y
    by_cases q1 : y = a
    · subst q1; simp [h1]
    · by_cases q2 : y = b
      · subst q2; simp [h2, q1]
      · by_cases q3 : y = c
        · subst q3; simp [h3, q1, q2]
        · simp [q1, q2, q3]
  rw [← e]; exact F

end
section
theorem ivalsOf {vs : List Value} {ns : List Int} (h : IntsAre vs ns) : ∃ ps : List (Int × Nat), vs = ivals ps ∧ ps.map (·.1) = ns := by
  induction h with
  | nil => exact ⟨[], rfl, rfl⟩
  | cons n t _ ih =>
    obtain ⟨ps, rfl, rfl⟩ := ih
    exact ⟨(n, t) :: ps, rfl, rfl⟩
theorem sortedTupF {prog : Program} {w : World} {A : Around} {E : Value → Shared → Prop} {s : Shared} {g : Heap} {L T : Addr} {m : Str → Option Value} {news : List (Addr × Obj)} {qs : List (Int × Nat)} {Q : Value → Shared → Prop}
    (F : Fr g L s.heap m) (N : News g L s.heap news) (nd : Nod news) (hT : s.heap.get? T = some (tupObj (ivals qs))) (h64 : qs.length < 64)
    (h : ∀ D (ps : List (Int × Nat)) e h', Fr g L h' m → News g L h' ((D, listOf (ivals ps).toArray e) :: news) → Nod ((D, listOf (ivals ps).toArray e) :: news) → (ps.map (·.1)).Perm (qs.map (·.1)) → (ps.map (·.1)).Pairwise (· ≤ ·) → Q (.ref D) { s with heap := h' }) :
    wpAny (model prog w) A (call (.builtin "sorted") [.ref T]) Q E s := by
  have hI : IntsAre (ivals qs) (qs.map (·.1)) := ivals_ints qs
  have h64' : (ivals qs).length < 64 := by simpa using h64
  refine Calls.call_function_entry kind_sorted plain_sorted entry_sorted (args_sorted1 _) ?_
  unfold Builtin.«sorted»
  refine wpAny_bind (m := checkCount "sorted" 1 1 _) (wpAny_pure ?_)
  refine wpAny_bind (wpAny_collect_seq (hsz := by rw [sizeLine_eq, List.size_toArray]; omega) T (.inr rfl) hT rfl rfl fun h1 keep => ?_)
  refine wpAny_bind (wpAny_newList ?_ (by show (ivals qs).length ≤ _; rw [sizeLine_eq]; omega))
  have hoL : (h1.push (seqObj "list" (ivals qs).toArray 0)).get? h1.objs.size = some (seqObj "list" (ivals qs).toArray 0) := Heap.get?_push_size _ rfl
  show wpAny _ _ _ _ _ { s with heap := h1.push (seqObj "list" (ivals qs).toArray 0) }
  refine wpAny_bind (wpAny_holding (wpAny_call_entry slot_list_sort ⟨_, hoL, rfl⟩ entry_list_sort (list_sort_tree hoL hI h64' fun out ns' a1 a2 a3 => ⟨_, rfl, ?_⟩) (args_list_sort _)))
  refine wpAny_pure ⟨_, rfl, ?_⟩
  obtain ⟨ps, e1, e2⟩ := ivalsOf a1
  obtain ⟨e, he⟩ := sortedHeap_at (vs := ivals qs) (out := out) hoL
  have k : ∀ b o, s.heap.get? b = some o → (sortedHeap (h1.push (seqObj "list" (ivals qs).toArray 0)) h1.objs.size (ivals qs) out).get? b = some o := fun b o q => by
    have hlt := Heap.lt_size (keep b o q)
    rw [sortedHeap_old (Nat.ne_of_lt hlt) (by rw [Heap.size_push]; exact Nat.lt_succ_of_lt hlt), Heap.get?_push_ne _ _ _ (Nat.ne_of_lt hlt)]
    exact keep b o q
  obtain rfl : out = (ivals ps).toArray := by rw [← e1]
  obtain ⟨oL, _, _, hL, _⟩ := F.ns
  have N' : News g L (sortedHeap (h1.push (seqObj "list" (ivals qs).toArray 0)) h1.objs.size (ivals qs) (ivals ps).toArray) ((h1.objs.size, listOf (ivals ps).toArray e) :: news) := fun p hp => by
    rcases List.mem_cons.mp hp with rfl | hp
    · refine ⟨he, Nat.ne_of_gt (Heap.lt_size (keep _ _ hL)), ?_⟩
      cases hq : g.get? h1.objs.size with
      | none => rfl
      | some o' => exact absurd (Heap.lt_size (keep _ _ (F.keep _ _ hq))) (Nat.lt_irrefl _)
    · exact ⟨k _ _ (N p hp).1, (N p hp).2⟩
  exact h _ ps e _ (F.kept k) N' (nodCons nd fun q hq => Heap.lt_size (keep _ _ (N q hq).1)) (e2 ▸ a2) (e2 ▸ a3)

end
local macro_rules | `(tactic| walk_at "eval ListComp") => `(tactic| refine Halt.go ?_)
local macro_rules | `(tactic| walk_at "compareOp NotIn") => `(tactic| ((with_reducible show wpAny _ _ (compareOp CmpOp.NotIn (Value.int _ _) (Value.ref _)) _ _ _); k_dflt (refine notInIval (by walk_at "HGET") ?_; intro b9 hb9)))
local macro_rules | `(tactic| walk_at "subscriptTail") => `(tactic| ((with_reducible show wpAny _ _ (subscriptTail _ _ (Value.ref _) (Value.int _ _)) _ _ _); k_dflt (refine itemRow (by walk_at "HGET") (by assumption) (by omega) (by assumption) ?_)))
local macro_rules | `(tactic| walk_at "compareOp NotEq") => `(tactic| ((with_reducible show wpAny _ _ (compareOp CmpOp.NotEq (Value.ref _) (Value.ref _)) _ _ _); k_dflt (refine neLtrs (by walk_at "HGET") (by walk_at "HGET") (by assumption) ?_; intro b9 hb9)))
local macro_rules | `(tactic| walk_at "compareOp NotEq") => `(tactic| ((with_reducible show wpAny _ _ (compareOp CmpOp.NotEq (Value.ref _) (Value.ref _)) _ _ _); k_dflt (refine neNil (by walk_at "HGET") (by walk_at "HGET") (by assumption) ?_; intro b9 hb9)))
local macro_rules | `(tactic| walk_at "call ref") => `(tactic| ((with_reducible show wpAny _ _ (call (Value.ref 65) [Value.ref _, Value.ref _]) _ _ _); k_dflt ((rename Nod _ => nd9); refine filtL (by assumption) (by assumption) nd9 (by assumption) (Around.frames_deeper (by assumption)) ⟨show ScopeKind.function ≠ ScopeKind.module by decide, rfl⟩ (by walk_at "MEM") (by walk_at "MEM") (by assumption) (by (simp only [depth_deeper]; omega)) (by (simp only [units_deeper]; omega)) (by assumption) ?_; intro D' n' h' t' F' N' nd'; clear nd9)))
local macro_rules | `(tactic| walk_at "eval Name") => `(tactic| (name_kind "globalImplicit"; (with_reducible show wpAny _ _ (eval _ (compEnvC _ _ _ _)) _ _ _); k_dflt (refine cmpGlob (by assumption) (by assumption) (by with_reducible first | exact gnUfilter _ | exact gnUlawUways _) ?_)))
local macro_rules | `(tactic| walk_at "eval Name") => `(tactic| (name_kind "free"; k_dflt (refine' cmpCell ?N ?hc ?hm ?ho ?_; (case N => assumption); (case hc => exact rfl); (case hm => walk_at "MEM"); (case ho => assumption))))
local macro_rules | `(tactic| walk_at "unpackItems ref") => `(tactic| k_dflt (refine' unpackItemsN_ ?k1 ?k2 ?k3 ?k4 ?k5 ?_; (case k1 => assumption); (case k2 => assumption); (case k3 => (refine ⟨_, (by walk_at "HGET"), ?_⟩; exact ⟨rfl, _, rfl⟩)); (case k4 => assumption); (case k5 => exact rfl); intro h' F' N'))
local macro_rules | `(tactic| walk_at "assign Tuple") => `(tactic| k_dflt (refine' unpackN_ ?k1 ?k2 ?k3 ?k4 ?k5 ?k6 ?_; (case k1 => assumption); (case k2 => assumption); (case k3 => (refine ⟨_, (by walk_at "HGET"), ?_⟩; exact ⟨rfl, _, rfl⟩)); (case k4 => assumption); (case k5 => exact rfl); (case k6 => exact rfl); intro h' F' N'))
local macro_rules | `(tactic| walk_at "MM") => `(tactic| first | assumption | exact List.Mem.head _ | (refine List.Mem.tail _ ?_; walk_at "MM") | (refine List.mem_append_left _ ?_; walk_at "MM") | (refine List.mem_append_right _ ?_; walk_at "MM"))
local macro_rules | `(tactic| walk_at "PERM") => `(tactic| (refine permN ?_; intro _ _ a; simp only [List.count_append, List.count_cons, List.append_assoc, List.cons_append]; ac_rfl))
section
theorem reset_LB : True := by
  w_top off
  trivial
theorem lawTailB {w : World} {A : Around} {s : Shared} {g : Heap} {L fa : Addr} {cd : Value} {name qual : Str} {params : Arguments} {body : List Stmt} {scope : Scope} {dV kV doc pm cdv ct oc : Value} {an od : Option Addr} {osl : Array (Option Value)} {Q : Flow → Shared → Prop} {E : Value → Shared → Prop}
    {u : Str → Option Value} {D3 W Gv Tk Ls : Addr} {oW' oT oG oLs oS : Obj} {NW2 : List (Addr × Obj)} {gs rs : List (Int × Nat)} {tk : List (Nat × Nat)} {rows ways : List Rw} {gn tn ln n nt n1 ct' : Nat} {rb : Bool} {dr cp : Int} {Gs R : List Int}
    (ho : (hd.heap_39 w.params).lookup 207 = some ⟨oc, od, .func (fnOf name qual params body scope dV kV doc pm an cdv ct), osl⟩)
    (hA : A.frames = some []) (hroom : A.depth < 410) (hu : A.units < 10) (hh : A.handled = none) (B : Bs w g)
    (F10 : Fr g L s.heap fun y => if y = Str.ofString "ring" then some (.bool rb) else if y = Str.ofString "copies" then some (.int cp ct') else if y = Str.ofString "rest" then some (.ref D3) else u y)
    (N10 : News g L s.heap ((D3, listOf (ivals rs).toArray (ivals rs).length) :: (L + 8, oW') :: NW2)) (nd10 : Nod ((D3, listOf (ivals rs).toArray (ivals rs).length) :: (L + 8, oW') :: NW2)) (mT : (L + 6, oT) ∈ NW2) (mG : (L + 5, oG) ∈ NW2) (mLs : (L + 3, oLs) ∈ NW2) (mS : (L + 1, oS) ∈ NW2)
    (mGv : (Gv, listOf (ivals gs).toArray gn) ∈ NW2) (mTk : (Tk, listOf (lvals tk).toArray tn) ∈ NW2) (mL : (Ls, listOf (rwRefs rows).toArray ln) ∈ NW2) (mR : ∀ r ∈ rows, (r.a, listOf (lvals r.ps).toArray r.n) ∈ NW2)
    (mW : (W, listOf (rwRefs ways).toArray n1) ∈ NW2) (mWr : ∀ r ∈ ways, (r.a, listOf (lvals r.ps).toArray r.n) ∈ NW2)
    (cW' : oW'.data = .cell (some (.ref W))) (cT : oT.data = .cell (some (.ref Tk))) (cG : oG.data = .cell (some (.ref Gv))) (cLs : oLs.data = .cell (some (.ref Ls))) (cS : oS.data = .cell (some (.int n nt)))
    (hn : n ≤ 5) (hn0 : 0 < n) (hrl : rows.length = n) (hrows : ∀ g row, rows[g]? = some row → row.ps.map (·.1) = rowIx dr n g) (hl10 : ∀ r ∈ rows, r.ps.length ≤ 10)
    (hgs : gs.map (·.1) = Gs) (htk : tk.map (·.1) = Gs.map (rmOf dr n)) (K : Kahn n (pdOf (lsOf dr n) (owOf dr n)) Gs R) (hcp : cp = (copiesOf (lsOf dr n) (rmOf dr n) Gs : Nat))
    (O : Order n (Gs ++ rs.map (·.1))) (hrs : rs.map (·.1) = restOf n Gs) (hways : ways.map Rw.ix = waysIx ((Gs ++ rs.map (·.1)).map (lsOf dr n))) (hwn : ways.length ≤ 100000)
    (hring : if rb = true then ∃ v, Relation.TransGen (fun a b => b ∈ scOf n (pdOf (lsOf dr n) (owOf dr n)) a) v v else ∃ rank : Int → Nat, ∀ g, rng n g → ∀ p ∈ pdOf (lsOf dr n) (owOf dr n) g, rank g < rank p)
    (hQ : ∀ h' t', (∀ b o, g.get? b = some o → h'.get? b = some o) → Q (.ret (.bool true)) { s with heap := h', toks := t' }) :
    wpAny (model Challenge.pw_ij0208_01 w) (A.deeper (envOfC qual scope L fa cd)) (execs (body.drop 9) (envOfC qual scope L fa cd)) Q E s := by
  have e := ho.symm.trans (rfl : (hd.heap_39 w.params).lookup 207 = some _)
  cases e
  clear ho
  dsimp only [List.drop]
  w_on
  walk1
  walk1
  walk_at "WALKS"
  obtain ⟨r0, hr0⟩ : ∃ r0, ways[(0 : Int).toNat]? = some r0 := by
    have := own_way (hous (dr := dr) hn0) O
    rw [← hways] at this
    obtain ⟨r, hr, _⟩ := List.mem_map.mp this
    exact ⟨ways[0]'(List.length_pos_of_mem hr), List.getElem?_eq_getElem (List.length_pos_of_mem hr)⟩
  have h00 : (0 : Int) ≤ 0 := Int.le_refl _
  have hcl : A.units + 3 < cLine := by rw [cLine_is]; omega
  refine Halt.go ?_
  rw [eval_ListComp]
  refine compT (use := none) F10 (by rfl) (by decide) rfl (by decide) (by decide) ?_
  walk_at "WALKS"
  refine Halt.go ?_
  refine srcList (g := g) hh (N10 _ (.tail _ (.tail _ mW))).1 fun it s₂ src => ?_
  refine ⟨_, _, _, _, _, fun i ys nw => nw = (D3, listOf (ivals rs).toArray (ivals rs).length) :: (L + 8, oW') :: NW2 ∧ ys = rwRefs ((ways.take i).filter fun r => !decide (r.ix = r0.ix)),
    src, by rw [sizeLine_eq]; simp [rwRefs]; omega, F10, N10, nd10, ⟨rfl, rfl⟩, fun i ys nw hJ => by rw [hJ.1]; exact .inl (.tail _ (.tail _ mW)), ?_, finEval fun D5 h6 tk6 ys nw hJ F11 N11 nd11 => ?_⟩
  · rintro i v ys nw I2 oI2 C oC D2 m₂ h3 tk3 E' hP ⟨rfl, rfl⟩ hC hv F5 N5 nd5
    obtain ⟨r, hr, rfl⟩ : ∃ r, ways[i]? = some r ∧ v = .ref r.a := by
      simp only [List.getElem?_toArray, List.getElem?_map, Option.map_eq_some_iff] at hP
      obtain ⟨r, hr, e⟩ := hP
      exact ⟨r, hr, e.symm⟩
    have g1 := mWr r (List.mem_of_getElem? hr)
    have g2 := mWr r0 (List.mem_of_getElem? hr0)
    walk_at "WALKS"
    · rename Bool => b9
      rename b9 = (!_) => hb9
      rename b9 = true => hbt
      exact ⟨_, _, _, rfl, F5, N5, nd5, rfl, fT hr (hb9.symm.trans hbt)⟩
    · rename Bool => b9
      rename b9 = (!_) => hb9
      rename b9 = false => hbt
      exact ⟨_, _, _, rfl, F5, N5, nd5, rfl, fF hr (hb9.symm.trans hbt)⟩
  obtain ⟨rfl, rfl⟩ := hJ
  have hrt := ringTest (hous (dr := dr) hn0) O hways hr0 hring
  rw [takeRefs] at N11 nd11
  walk_at "WALKS"
  · rename Bool => b9
    rename b9 = (!_) => hb
    rename (rb != b9) = true => hbt
    rw [hrt] at hb
    rw [hb] at hbt; simp at hbt
  rename Fr _ _ _ _ => F12
  rename News _ _ _ _ => N12
  rename Nod _ => nd12
  clear N10 nd10 F10 N11 F11 src
  replace nd12 : Nod ((D3, listOf (ivals rs).toArray (ivals rs).length) :: (L + 8, oW') :: NW2) := nodSub nd12 (.cons _ (.cons _ (.refl _)))
  replace N12 : News g L _ ((D3, listOf (ivals rs).toArray (ivals rs).length) :: (L + 8, oW') :: NW2) := newsSub N12 fun q hq => .tail _ (.tail _ hq)
  refine Halt.go ?_
  rw [eval_ListComp]
  refine compU (use := none) F12 (by rfl) (by decide) rfl (by decide) (by decide) ?_
  have hgl : gs.length + rs.length ≤ n := by have := O.len; rw [← hgs] at this; simpa using this
  have hz2 : (ivals rs).length = rs.length := by simp
  walk_at "WALKS"
  refine Halt.go ?_
  refine srcList (g := g) hh (N12 _ (.head _)).1 fun it s₂ src => ?_
  refine ⟨_, _, _, _, _, fun i ys nw => ∃ fs : List Rw, nw = (D3, listOf (ivals rs).toArray (ivals rs).length) :: (L + 8, oW') :: (NW2 ++ rowObjs fs) ∧ ys = rwRefs fs ∧ fs.map Rw.ix = ((rs.map (·.1)).take i).map (leftOf (lsOf dr n) (rmOf dr n) Gs) ∧ fs.length ≤ i ∧ ∀ r ∈ fs, r.ps.length ≤ 10,
    src, by rw [sizeLine_eq]; simp; omega, F12, N12, nd12, ⟨[], by simp [rowObjs], rfl, rfl, Nat.le_refl _, fun _ h => nomatch h⟩, fun i ys nw hJ => by obtain ⟨fs, rfl, _⟩ := hJ; exact .inl (.head _), ?_, finEval fun D7 h7 tk7 ys nw hJ F13 N13 nd13 => ?_⟩
  · rintro i v ys nw I2 oI2 C oC D2 m₂ h3 tk3 E' hP ⟨fs, rfl, rfl, hf1, hf2, hf3⟩ hC hv F5 N5 nd5
    obtain ⟨p, hp, rfl⟩ : ∃ p, rs[i]? = some p ∧ v = .int p.1 p.2 := by
      rw [List.getElem?_toArray, List.getElem?_map, Option.map_eq_some_iff] at hP
      obtain ⟨p, hp, e⟩ := hP
      exact ⟨p, hp, e.symm⟩
    have hpi : (rs.map (·.1))[i]? = some p.1 := by rw [List.getElem?_map, hp]; rfl
    obtain ⟨hp0, hp1⟩ := (O.mem p.1).mp (List.mem_append_right _ (List.mem_of_getElem? hpi))
    obtain ⟨r, hr, hrix⟩ := rowAt hrl hrows ⟨hp0, hp1⟩
    have g1 := mR r (List.mem_of_getElem? hr)
    have hr10 := hl10 r (List.mem_of_getElem? hr)
    have hr1000 : r.ps.length ≤ 1000 := by omega
    walk_at "WALKS"
    rename_i D8 n8 h8 t8 F6 N6 nd6
    obtain ⟨N8, nd8⟩ := rowIn (J := []) N6 nd6
    refine ⟨_, _, _, rfl, F6, N8, nd8, fs ++ [⟨D8, r.ps.filter fun p => !(tk.map (·.1)).contains p.1, n8⟩], ?_, by simp [rwRefs], ?_, by simp; omega, ?_⟩
    · rw [rowObjs_snoc, ← List.append_assoc]; rfl
    · rw [List.map_append, hf1, List.take_add_one, hpi, List.map_append]
      simp only [List.map_cons, List.map_nil, Option.toList_some]
      rw [show Rw.ix ⟨D8, _, _⟩ = _ from left_ix hrix htk]
    · intro z hz
      rcases List.mem_append.mp hz with hz | hz
      · exact hf3 z hz
      · rw [List.mem_singleton.mp hz]; exact Nat.le_trans (List.length_filter_le _ _) hr10
  obtain ⟨fs, rfl, rfl, hf1, hf2, hf3⟩ := hJ
  rw [show (ivals rs).toArray.size = rs.length by simp] at hf1 hf2
  rw [List.take_of_length_le (by simp)] at hf1
  clear F12 N12 nd12 src
  walk_at "WALKS"
  refine lawWays (rows := fs) (N13 _ (.head _)).1 (fun r hr => (N13 _ (.tail _ (.tail _ (.tail _ (List.mem_append_right _ (rowObjs_mem hr)))))).1) (by omega) hf3 (B.keeps F13.keep) (by first | exact dD hroom (by decide) | (simp only [depth_deeper]; omega)) (by first | exact uD hu (by decide) | (simp only [units_deeper]; omega)) hh ?_
  intro W2 n2 parts h5 t5 hparts hpn O5
  obtain ⟨F9, N9, nd9⟩ := callOut F13 N13 nd13 O5
  obtain ⟨NW3, hNW3⟩ : ∃ NW3, NW3 = (rowObjs fs ++ (W2, listOf (rwRefs parts).toArray n2) :: rowObjs parts) ++ NW2 := ⟨_, rfl⟩
  obtain ⟨N10, nd10⟩ : News g L h5 ((L + 8, oW') :: NW3) ∧ Nod ((L + 8, oW') :: NW3) := by
    subst hNW3
    have pm : ((L + 8, oW') :: ((rowObjs fs ++ (W2, listOf (rwRefs parts).toArray n2) :: rowObjs parts) ++ NW2)).Perm ((L + 8, oW') :: (NW2 ++ (rowObjs fs ++ (W2, listOf (rwRefs parts).toArray n2) :: rowObjs parts))) := .cons _ List.perm_append_comm
    have hs : ((L + 8, oW') :: (NW2 ++ (rowObjs fs ++ (W2, listOf (rwRefs parts).toArray n2) :: rowObjs parts))).Sublist ((D7, listOf (rwRefs fs).toArray (rwRefs fs).length) :: ((D3, listOf (ivals rs).toArray (ivals rs).length) :: (L + 8, oW') :: (NW2 ++ rowObjs fs)) ++ (W2, listOf (rwRefs parts).toArray n2) :: rowObjs parts) := by
      refine .cons _ (.cons _ ?_)
      show ((L + 8, oW') :: (NW2 ++ (rowObjs fs ++ (W2, listOf (rwRefs parts).toArray n2) :: rowObjs parts))).Sublist ((L + 8, oW') :: ((NW2 ++ rowObjs fs) ++ (W2, listOf (rwRefs parts).toArray n2) :: rowObjs parts))
      rw [List.append_assoc]
      exact .refl _
    exact ⟨newsPerm (newsSub N9 fun q hq => hs.subset hq) pm, nodPerm (nodSub nd9 hs) pm⟩
  replace mT : _ ∈ NW3 := hNW3 ▸ List.mem_append_right _ mT
  replace mTk : _ ∈ NW3 := hNW3 ▸ List.mem_append_right _ mTk
  replace mW : _ ∈ NW3 := hNW3 ▸ List.mem_append_right _ mW
  replace mWr : ∀ r ∈ ways, _ ∈ NW3 := fun r hr => hNW3 ▸ List.mem_append_right _ (mWr r hr)
  have mP : (W2, listOf (rwRefs parts).toArray n2) ∈ NW3 := hNW3 ▸ List.mem_append_left _ (List.mem_append_right _ (.head _))
  have mPr : ∀ r ∈ parts, (r.a, listOf (lvals r.ps).toArray r.n) ∈ NW3 := fun r hr => hNW3 ▸ List.mem_append_left _ (List.mem_append_right _ (.tail _ (rowObjs_mem hr)))
  rw [hf1] at hparts
  have hall := ways_all (hous (dr := dr) hn0) K (rs.map (·.1))
  rw [← hways, ← hparts] at hall
  clear N9 nd9 N13 nd13 F13 O5 hNW3
  walk_at "WALKS"
  rename Fr _ _ _ _ => F14
  rename News _ _ _ _ => N14
  have hpl : ways.length = copiesOf (lsOf dr n) (rmOf dr n) Gs * parts.length := by
    have := congrArg List.length hall
    simpa using this
  have hpos : 0 < ways.length := (List.getElem?_eq_some_iff.mp hr0).1
  have hc1 : copiesOf (lsOf dr n) (rmOf dr n) Gs ≤ 100000 := by
    rcases Nat.eq_zero_or_pos parts.length with q | q
    · rw [q] at hpl; omega
    · exact Nat.le_trans (Nat.le_trans (Nat.le_mul_of_pos_right _ q) (Nat.le_of_eq hpl.symm)) hwn
  have htl : tk.length ≤ n := by
    have := congrArg List.length htk
    rw [List.length_map, List.length_map, ← hgs, List.length_map] at this
    omega
  have hz3 : (lvals tk).length = tk.length := by simp [lvals]
  refine Halt.go ?_
  rw [eval_ListComp]
  refine compU (use := none) F14 (by rfl) (by decide) rfl (by decide) (by decide) ?_
  walk_at "WALKS"
  refine Halt.go ?_
  refine srcList (g := g) hh (N14 _ (.tail _ mP)).1 fun it s₂ src => ?_
  refine ⟨_, _, _, _, _, fun i ys nw => ∃ fs : List Rw, nw = (L + 8, oW') :: (NW3 ++ rowObjs fs) ∧ ys = rwRefs fs ∧ fs.map Rw.ix = ((parts.take i).map Rw.ix).map (Gs.map (rmOf dr n) ++ ·) ∧ fs.length ≤ i,
    src, by rw [sizeLine_eq]; simp [rwRefs]; omega, F14, N14, nd10, ⟨[], by simp [rowObjs], rfl, rfl, Nat.le_refl _⟩, fun i ys nw hJ => by obtain ⟨fs, rfl, _⟩ := hJ; exact .inl (.tail _ (List.mem_append_left _ mP)), ?_, finEval fun D9 h9 tk9 ys nw hJ F15 N15 nd15 => ?_⟩
  · rintro i v ys nw I2 oI2 C oC D2 m₂ h3 tk3 E' hP ⟨fs, rfl, rfl, hf1, hf2⟩ hC hv F5 N5 nd5
    obtain ⟨r, hr, rfl⟩ : ∃ r, parts[i]? = some r ∧ v = .ref r.a := by
      simp only [List.getElem?_toArray, List.getElem?_map, Option.map_eq_some_iff] at hP
      obtain ⟨r, hr, e⟩ := hP
      exact ⟨r, hr, e.symm⟩
    have g1 := mPr r (List.mem_of_getElem? hr)
    have hrl' : (lvals r.ps).length ≤ 100 := by
      have h1 : r.ix ∈ waysIx ((rs.map (·.1)).map (leftOf (lsOf dr n) (rmOf dr n) Gs)) := by rw [← hparts]; exact List.mem_map_of_mem (f := Rw.ix) (List.mem_of_getElem? hr)
      have h2 : r.ps.length = _ := (List.length_map (·.1)).symm.trans (picks_len ((ways_mem _ _ rfl _).mp h1).2)
      rw [List.length_map, List.length_map] at h2
      simp only [lvals, List.length_map]; omega
    walk_at "WALKS"
    rename_i D8 h8 F6 N6 nd6
    obtain ⟨N8, nd8⟩ := rowIn (J := []) N6 nd6
    rw [← lvals_app] at N8 nd8
    refine ⟨_, _, _, rfl, F6, N8, nd8, fs ++ [⟨D8, tk ++ r.ps, 0⟩], ?_, by simp [rwRefs], ?_, by simp; omega⟩
    · rw [rowObjs_snoc, ← List.append_assoc]; rfl
    · rw [List.map_append, hf1, List.take_add_one, hr, List.map_append, List.map_append]
      simp only [List.map_cons, List.map_nil, Option.toList_some]
      show _ ++ [(tk ++ r.ps).map (·.1)] = _ ++ [_ ++ r.ps.map (·.1)]
      rw [List.map_append, htk]
  obtain ⟨ns, rfl, rfl, hn1, hn2⟩ := hJ
  rw [takeRefs] at hn1
  have hz4 : (rwRefs parts).toArray.size = parts.length := by simp [rwRefs]
  have hz5 : (rwRefs ns).length = ns.length := by simp [rwRefs]
  have hz6 : ns.length = parts.length := by have := congrArg List.length hn1; simpa using this
  rw [List.map_map] at hn1
  have hcu : A.units + 4 < cLine := by rw [cLine_is]; omega
  subst hcp
  walk_at "WALKS"
  refine mulListF F15 N15 nd15 (N15 _ (.head _)).1 (by omega) (by omega) (by rw [hz5, hz6, Int.toNat_natCast, Nat.mul_comm, ← hpl]; omega) ?_
  intro D10 h10 F16 N16 nd16
  rw [Int.toNat_natCast, repRefs] at N16 nd16
  walk_at "WALKS"
  refine PySem.EqBoolInt.of_rc (rcRows (N16 _ (.tail _ (.tail _ (.tail _ (List.mem_append_left _ mW))))).1 (N16 _ (.head _)).1 (by exact hcu) (fun r hr => (N16 _ (.tail _ (.tail _ (.tail _ (List.mem_append_left _ (mWr r hr)))))).1)
    (fun r hr => (N16 _ (.tail _ (.tail _ (.tail _ (List.mem_append_right _ (rowObjs_mem (by obtain ⟨l, hl, h2⟩ := List.mem_flatten.mp hr; rw [(List.mem_replicate.mp hl).2] at h2; exact h2))))))).1)) ?_
  have e : ways.map Rw.ix = (List.replicate (copiesOf (lsOf dr n) (rmOf dr n) Gs) ns).flatten.map Rw.ix := by
    rw [List.map_flatten, List.map_replicate, hn1, hall, List.map_map]
  rw [decide_eq_true e]
  rename Fr _ _ _ _ => F99
  exact hQ _ _ F99.keep

end
section
local macro_rules | `(tactic| walk_at "no goal 0") => `(tactic| fail)
theorem reset_LT : True := by
  w_top off
  trivial
theorem lawTail {w : World} {A : Around} {s : Shared} {g : Heap} {L fa : Addr} {cd : Value} {name qual : Str} {params : Arguments} {body : List Stmt} {scope : Scope} {dV kV doc pm cdv ct oc : Value} {an od : Option Addr} {osl : Array (Option Value)} {Q : Flow → Shared → Prop} {E : Value → Shared → Prop}
    {u m₀ : Str → Option Value} {x Gv Tk Ls : Addr} {oW oT oG oLs oS : Obj} {NW : List (Addr × Obj)} {gs : List (Int × Nat)} {tk : List (Nat × Nat)} {rows : List Rw} {gn tn ln n nt ct' : Nat} {vW : Option Value} {rb : Bool} {dr cp : Int} {Gs R : List Int}
    (ho : (hd.heap_39 w.params).lookup 207 = some ⟨oc, od, .func (fnOf name qual params body scope dV kV doc pm an cdv ct), osl⟩)
    (hA : A.frames = some []) (hroom : A.depth < 410) (hu : A.units < 10) (hh : A.handled = none) (B : Bs w g)
    (F : Fr g L s.heap fun y => if (["g", "step", "due", "active", "ready", "rest", "part"] : List Str).contains y then u y else if y = Str.ofString "ring" then some (.bool rb) else if y = Str.ofString "copies" then some (.int cp ct') else m₀ y)
    (N : News g L s.heap ((L + 8, oW) :: NW)) (nd : Nod ((L + 8, oW) :: NW)) (mT : (L + 6, oT) ∈ NW) (mG : (L + 5, oG) ∈ NW) (mLs : (L + 3, oLs) ∈ NW) (mS : (L + 1, oS) ∈ NW)
    (mGv : (Gv, listOf (ivals gs).toArray gn) ∈ NW) (mTk : (Tk, listOf (lvals tk).toArray tn) ∈ NW) (mL : (Ls, listOf (rwRefs rows).toArray ln) ∈ NW) (mR : ∀ r ∈ rows, (r.a, listOf (lvals r.ps).toArray r.n) ∈ NW)
    (cW : oW.data = .cell vW) (cT : oT.data = .cell (some (.ref Tk))) (cG : oG.data = .cell (some (.ref Gv))) (cLs : oLs.data = .cell (some (.ref Ls))) (cS : oS.data = .cell (some (.int n nt)))
    (hn : n ≤ 5) (hn0 : 0 < n) (hrl : rows.length = n) (hrows : ∀ g row, rows[g]? = some row → row.ps.map (·.1) = rowIx dr n g)
    (hgs : gs.map (·.1) = Gs) (htk : tk.map (·.1) = Gs.map (rmOf dr n)) (K : Kahn n (pdOf (lsOf dr n) (owOf dr n)) Gs R) (hcp : cp = (copiesOf (lsOf dr n) (rmOf dr n) Gs : Nat))
    (hring : if rb = true then ∃ v, Relation.TransGen (fun a b => b ∈ scOf n (pdOf (lsOf dr n) (owOf dr n)) a) v v else ∃ rank : Int → Nat, ∀ g, rng n g → ∀ p ∈ pdOf (lsOf dr n) (owOf dr n) g, rank g < rank p)
    (hQ : ∀ h' t', (∀ b o, g.get? b = some o → h'.get? b = some o) → Q (.ret (.bool true)) { s with heap := h', toks := t' }) :
    wpAny (model Challenge.pw_ij0208_01 w) (A.deeper (envOfC qual scope L fa cd)) (execs (body.drop 7) (envOfC qual scope L fa cd)) Q E s := by
  have e := ho.symm.trans (rfl : (hd.heap_39 w.params).lookup 207 = some _)
  cases e
  clear ho
  dsimp only [List.drop]
  walk_at "WALKS"
  refine assignT F (by rfl) (by rfl) (by decide) rfl (by decide) (by decide) ?_
  walk_at "WALKS"
  rename Fr _ _ _ _ => F1
  rename News _ _ _ _ => N1
  rename Nod _ => nd1
  rename IsRange _ _ _ _ _ _ _ _ => R1
  refine Halt.go ?_
  refine srcN (g := g) hh R1 (by omega) fun it s₂ src => ?_
  refine ⟨_, _, _, _, _, fun i ys nw => nw = (L + 8, oW) :: NW ∧ ∃ rs : List (Int × Nat), ys = ivals rs ∧ rs.length ≤ i ∧ rs.map (·.1) = restOf i Gs,
    src, by rw [sizeLine_eq]; omega, F1, N1, nd1, ⟨rfl, [], rfl, Nat.le_refl _, rfl⟩, fun _ _ _ _ => trivial, ?_, useLocal rfl rfl rfl fun D3 h3 tk3 ys nw hJ F5 N5 nd5 => ?_⟩
  · rintro i v ys nw I2 oI2 C oC D2 m₂ h3 tk3 E' ⟨hi2, tv, rfl⟩ ⟨rfl, rs, rfl, hpl, hps⟩ hC hv F5 N5 nd5
    walk_at "WALKS"
    · rename Bool => b9
      rename b9 = (!_) => hb
      rename b9 = true => hbt
      exact ⟨_, _, _, rfl, F5, N5, nd5, rfl, _, ivals_snoc _ _ _, hitLenI hpl, restT1 (by rw [← hgs]; exact hb.symm.trans hbt) hps⟩
    · rename Bool => b9
      rename b9 = (!_) => hb
      rename b9 = false => hbt
      exact ⟨_, _, _, rfl, F5, N5, nd5, rfl, rs, rfl, Nat.le_succ_of_le hpl, restF1 (by rw [← hgs]; exact hb.symm.trans hbt) hps⟩
  obtain ⟨rfl, rs, rfl, hrsl, hrs⟩ := hJ
  clear F1 N1 src
  walk_at "WALKS"
  rename Fr _ _ _ _ => F6
  refine Halt.go ?_
  rw [eval_ListComp]
  refine compU (use := none) F6 (by rfl) (by decide) rfl (by decide) (by decide) ?_
  have hgl : gs.length ≤ n := by
    have h1 := nod_le (l := Gs) (keys := (List.range n).map fun (k : Nat) => (k : Int)) K.nodG fun k hk => List.mem_map.mpr ⟨k.toNat, List.mem_range.mpr (by have := K.rngG k hk; unfold rng at this; omega), by have := K.rngG k hk; unfold rng at this; omega⟩
    rw [← hgs] at h1; simpa using h1
  have hz1 : (ivals gs).length = gs.length := by simp
  have hz2 : (ivals rs).length = rs.length := by simp
  walk_at "WALKS"
  rename Fr _ _ _ _ => F7
  rename News _ _ _ _ => N7
  rename Nod _ => nd7
  rename Addr => D4
  have O := ordOf K
  rw [← hrs] at O
  have hol : gs.length + rs.length ≤ n := by have := O.len; rw [← hgs] at this; simpa using this
  refine Halt.go ?_
  refine srcList (g := g) hh (N7 _ (.head _)).1 fun it s₂ src => ?_
  refine ⟨_, _, _, _, _, fun i ys nw => nw = (D4, listOf (ivals gs ++ ivals rs).toArray 0) :: (D3, listOf (ivals rs).toArray (ivals rs).length) :: (L + 8, oW) :: NW ∧ ∃ ws : List Rw, ys = rwRefs ws ∧ ws.map Rw.ix = ((Gs ++ rs.map (·.1)).take i).map (lsOf dr n) ∧ ws.length ≤ i ∧ ∀ r ∈ ws, r ∈ rows,
    src, by rw [sizeLine_eq]; simp; omega, F7, N7, nd7, ⟨rfl, [], rfl, rfl, Nat.le_refl _, fun _ h => nomatch h⟩, fun i ys nw hJ => by rw [hJ.1]; exact .inl (.head _), ?_, finEval fun W4 h4 tk4 ys nw hJ F8 N8 nd8 => ?_⟩
  · rintro i v ys nw I2 oI2 C oC D2 m₂ h3 tk3 E' hP ⟨rfl, ws, rfl, hws, hwl, hwr⟩ hC hv F5 N5 nd5
    obtain ⟨p, hp, rfl⟩ : ∃ p, (gs ++ rs)[i]? = some p ∧ v = .int p.1 p.2 := by
      rw [← List.map_append, List.getElem?_toArray, List.getElem?_map, Option.map_eq_some_iff] at hP
      obtain ⟨p, hp, e⟩ := hP
      exact ⟨p, hp, e.symm⟩
    have hpi : (Gs ++ rs.map (·.1))[i]? = some p.1 := by rw [← hgs, ← List.map_append, List.getElem?_map, hp]; rfl
    obtain ⟨hp0, hp1⟩ := (O.mem p.1).mp (List.mem_of_getElem? hpi)
    obtain ⟨r, hr, hrix⟩ := rowAt hrl hrows ⟨hp0, hp1⟩
    walk_at "WALKS"
    exact ⟨_, _, _, rfl, F5, N5, nd5, rfl, ws ++ [r], by simp [rwRefs], by rw [List.map_append, hws, List.take_add_one, hpi, List.map_append]; simp [hrix], by simp; omega, fun x hx => (List.mem_append.mp hx).elim (hwr x) fun h => by rw [List.mem_singleton.mp h]; exact List.mem_of_getElem? hr⟩
  obtain ⟨rfl, ws, rfl, hws, hwl, hwr⟩ := hJ
  have hsz : (ivals gs ++ ivals rs).toArray.size = gs.length + rs.length := by simp
  rw [hsz] at hws hwl
  rw [List.take_of_length_le (by rw [← hgs]; simp)] at hws
  walk_at "WALKS"
  have hl10 : ∀ r ∈ rows, r.ps.length ≤ 10 := fun r hr => by
    obtain ⟨j, hj⟩ := List.getElem?_of_mem hr
    have := congrArg List.length (hrows j r hj)
    rw [List.length_map] at this
    rw [this]; exact row_len hn j
  refine lawWays (rows := ws) (N8 _ (.head _)).1 (fun r hr => (N8 _ (.tail _ (.tail _ (.tail _ (.tail _ (mR r (hwr r hr))))))).1) (by omega) (fun r hr => hl10 r (hwr r hr)) (B.keeps F8.keep) (by first | exact dD hroom (by decide) | (simp only [depth_deeper]; omega)) (by first | exact uD hu (by decide) | (simp only [units_deeper]; omega)) hh ?_
  intro W n1 ways h5 t5 hways hwn O5
  obtain ⟨F9, N9, nd9⟩ := callOut F8 N8 nd8 O5
  replace N9 : News g L h5 ((W4, _) :: (D4, _) :: (D3, listOf (ivals rs).toArray (ivals rs).length) :: (L + 8, oW) :: (NW ++ (W, listOf (rwRefs ways).toArray n1) :: rowObjs ways)) := N9
  replace nd9 : Nod ((W4, _) :: (D4, _) :: (D3, listOf (ivals rs).toArray (ivals rs).length) :: (L + 8, oW) :: (NW ++ (W, listOf (rwRefs ways).toArray n1) :: rowObjs ways)) := nd9
  obtain ⟨NW2, hNW2⟩ : ∃ NW2, NW2 = NW ++ (W, listOf (rwRefs ways).toArray n1) :: rowObjs ways := ⟨_, rfl⟩
  rw [← hNW2] at N9 nd9
  replace mT : _ ∈ NW2 := hNW2 ▸ List.mem_append_left _ mT
  replace mG : _ ∈ NW2 := hNW2 ▸ List.mem_append_left _ mG
  replace mLs : _ ∈ NW2 := hNW2 ▸ List.mem_append_left _ mLs
  replace mS : _ ∈ NW2 := hNW2 ▸ List.mem_append_left _ mS
  replace mGv : _ ∈ NW2 := hNW2 ▸ List.mem_append_left _ mGv
  replace mTk : _ ∈ NW2 := hNW2 ▸ List.mem_append_left _ mTk
  replace mL : _ ∈ NW2 := hNW2 ▸ List.mem_append_left _ mL
  replace mR : ∀ r ∈ rows, _ ∈ NW2 := fun r hr => hNW2 ▸ List.mem_append_left _ (mR r hr)
  have mW : (W, listOf (rwRefs ways).toArray n1) ∈ NW2 := hNW2 ▸ List.mem_append_right _ (.head _)
  have mWr : ∀ r ∈ ways, (r.a, listOf (lvals r.ps).toArray r.n) ∈ NW2 := fun r hr => hNW2 ▸ List.mem_append_right _ (.tail _ (rowObjs_mem hr))
  clear hNW2 N8 nd8 F8 O5 src
  clear F7 N7 nd7
  rw [hws] at hways
  w_on
  walk1
  rename Fr _ _ _ _ => F10
  rename News _ _ _ _ => N10
  rename Nod _ => nd10
  obtain ⟨oW', cW', N10, nd10⟩ : ∃ oW', oW'.data = .cell (some (.ref W)) ∧ News g L _ ((D3, listOf (ivals rs).toArray (ivals rs).length) :: (L + 8, oW') :: NW2) ∧ Nod ((D3, listOf (ivals rs).toArray (ivals rs).length) :: (L + 8, oW') :: NW2) :=
    ⟨_, by assumption, newsSub N10 fun q hq => .tail _ (.tail _ hq), nodSub nd10 (.cons _ (.cons _ (.refl _)))⟩
  have F11 := frPin3 (a := Str.ofString "ring") (b := Str.ofString "copies") (c := Str.ofString "rest") F10 (by rfl) (by rfl) (by rfl)
  exact lawTailB (rfl : (hd.heap_39 w.params).lookup 207 = some _) hA hroom hu hh B F11 N10 nd10 mT mG mLs mS mGv mTk mL mR mW mWr cW' cT cG cLs cS hn hn0 hrl hrows hl10 hgs htk K hcp O hrs hways hwn hring hQ

end
section
local macro_rules | `(tactic| walk_at "no goal 0") => `(tactic| fail)
local macro_rules | `(tactic| walk_at "no goal 1") => `(tactic| fail)
theorem reset_MA : True := by
  w_top off
  trivial
def lfRows (fs : List (Int × Rw)) : List Rw := fs.map (·.2)
def lfKvs (fs : List (Int × Rw)) : List (Int × Value) := fs.map fun p => (p.1, .ref p.2.a)
theorem lfRows_snoc (fs : List (Int × Rw)) (p : Int × Rw) : lfRows (fs ++ [p]) = lfRows fs ++ [p.2] := by simp [lfRows]
theorem lf_none {fs : List (Int × Rw)} {k : Int} (h : k ∉ fs.map (·.1)) : valueAt (lfKvs fs) k = none := by
  unfold valueAt lfKvs
  simp only [Option.map_eq_none_iff, List.find?_eq_none, List.mem_map]
  rintro x ⟨p, hp, rfl⟩ e
  exact h (List.mem_map.mpr ⟨p, hp, by simpa using e⟩)
theorem rest_snocT {i : Nat} {Gs : List Int} (h : (!Gs.contains (i : Int)) = true) : restOf (i + 1) Gs = restOf i Gs ++ [(i : Int)] := by
  unfold restOf
  rw [List.range_succ, List.map_append, List.filter_append, List.map_cons, List.map_nil, List.filter_cons, if_pos h, List.filter_nil]
theorem rest_snocF {i : Nat} {Gs : List Int} (h : (!Gs.contains (i : Int)) = false) : restOf (i + 1) Gs = restOf i Gs := by
  unfold restOf
  rw [List.range_succ, List.map_append, List.filter_append, List.map_cons, List.map_nil, List.filter_cons, if_neg (by rw [h]; decide), List.filter_nil, List.append_nil]
theorem lawLeft {w : World} {A : Around} {s : Shared} {g : Heap} {L fa : Addr} {cd : Value} {name qual : Str} {params : Arguments} {body lb els rest6 : List Stmt} {t6 i6 : PySem.Expr} {p6 : Pos} {scope : Scope} {dV kV doc pm cdv ct oc : Value} {an od : Option Addr} {osl : Array (Option Value)} {Q : Flow → Shared → Prop} {E : Value → Shared → Prop}
    {m : Str → Option Value} {Gv Tk Ls : Addr} {oF oT oG oLs oS : Obj} {NW : List (Addr × Obj)} {gs : List (Int × Nat)} {tk : List (Nat × Nat)} {rows : List Rw} {gn tn ln n nt : Nat} {vF : Option Value} {dr : Int} {Gs : List Int}
    (ho : (hd.heap_39 w.params).lookup 207 = some ⟨oc, od, .func (fnOf name qual params body scope dV kV doc pm an cdv ct), osl⟩) (hb : body.drop 6 = Stmt.For t6 i6 lb els p6 :: rest6)
    (hA : A.frames = some []) (hroom : A.depth < 410) (hu : A.units < 10) (hh : A.handled = none) (B : Bs w g)
    (F : Fr g L s.heap m) (N : News g L s.heap ((L + 7, oF) :: NW)) (nd : Nod ((L + 7, oF) :: NW)) (mT : (L + 6, oT) ∈ NW) (mG : (L + 5, oG) ∈ NW) (mLs : (L + 3, oLs) ∈ NW) (mS : (L + 1, oS) ∈ NW)
    (mGv : (Gv, listOf (ivals gs).toArray gn) ∈ NW) (mTk : (Tk, listOf (lvals tk).toArray tn) ∈ NW) (mL : (Ls, listOf (rwRefs rows).toArray ln) ∈ NW) (mR : ∀ r ∈ rows, (r.a, listOf (lvals r.ps).toArray r.n) ∈ NW)
    (cF : oF.data = .cell vF) (cT : oT.data = .cell (some (.ref Tk))) (cG : oG.data = .cell (some (.ref Gv))) (cLs : oLs.data = .cell (some (.ref Ls))) (cS : oS.data = .cell (some (.int n nt)))
    (hn : n ≤ 5) (hrl : rows.length = n) (hrows : ∀ g row, rows[g]? = some row → row.ps.map (·.1) = rowIx dr n g) (hl10 : ∀ r ∈ rows, r.ps.length ≤ 10)
    (hgs : gs.map (·.1) = Gs) (htk : tk.map (·.1) = Gs.map (rmOf dr n))
    (hK : ∀ Lf oLf oF' fs h' t', fs.map (·.1) = restOf n Gs → (∀ p ∈ fs, p.2.ix = leftOf (lsOf dr n) (rmOf dr n) Gs p.1 ∧ p.2.ps.length ≤ 10) → oLf.IsDictOf (intKind Challenge.pw_ij0208_01 w) (lfKvs fs) → (Lf == sysModules) = false → oF'.data = .cell (some (.ref Lf)) →
      Fr g L h' m → News g L h' ((Lf, oLf) :: (L + 7, oF') :: (NW ++ rowObjs (lfRows fs))) → Nod ((Lf, oLf) :: (L + 7, oF') :: (NW ++ rowObjs (lfRows fs))) →
      wpAny (model Challenge.pw_ij0208_01 w) (A.deeper (envOfC qual scope L fa cd)) (execs (lb.drop 1) (envOfC qual scope L fa cd)) Q E { s with heap := h', toks := t' }) :
    wpAny (model Challenge.pw_ij0208_01 w) (A.deeper (envOfC qual scope L fa cd)) (execs lb (envOfC qual scope L fa cd)) Q E s := by
  have e := ho.symm.trans (rfl : (hd.heap_39 w.params).lookup 207 = some _)
  cases e
  clear ho
  cases hb
  dsimp only [List.drop] at hK ⊢
  walk_at "WALKS"
  rw [arm_eval_DictComp]
  refine compD (use := none) (intKind _ _) F (by rfl) (by decide) rfl (by decide) (by decide) ?_
  walk_at "WALKS"
  rename IsRange _ _ _ _ _ _ _ _ => R1
  rename Fr _ _ _ _ => F1
  rename News _ _ _ _ => N1
  rename Nod _ => nd1
  refine Halt.go ?_
  refine srcN (g := g) hh R1 (by omega) fun it s₂ src => ?_
  refine ⟨_, _, _, _, _, fun i kvs nw => ∃ fs : List (Int × Rw), nw = (L + 7, oF) :: (NW ++ rowObjs (lfRows fs)) ∧ kvs = lfKvs fs ∧ fs.map (·.1) = restOf i Gs ∧ (fs.length ≤ i ∧ i ≤ n) ∧ ∀ p ∈ fs, p.2.ix = leftOf (lsOf dr n) (rmOf dr n) Gs p.1 ∧ p.2.ps.length ≤ 10,
    src, F1, N1, nd1, ⟨[], by simp [lfRows, rowObjs], rfl, rfl, ⟨Nat.le_refl _, Nat.zero_le _⟩, fun _ h => nomatch h⟩, fun _ _ _ _ => trivial, ?_, ?_, finEvalD fun Lf oLf h2 tk2 kvs nw hJ hlt hD F2 N2 nd2 => ?_⟩
  · rintro i kvs nw ⟨fs, rfl, rfl, h1, h2, h3⟩; simp only [lfKvs, List.length_map]; omega
  · rintro i v kvs nw I2 oI2 C oC D2 oD2 m₂ h3 tk3 E' ⟨hi2, tv, rfl⟩ ⟨fs, rfl, rfl, hf1, hf2, hf3⟩ hDk hC hv F5 N5 nd5
    have hin : rng n (i : Int) := ⟨by omega, by omega⟩
    obtain ⟨r, hr, hrix⟩ := rowAt hrl hrows hin
    have g1 := mR r (List.mem_of_getElem? hr)
    have hr10 := hl10 r (List.mem_of_getElem? hr)
    have hr1000 : r.ps.length ≤ 1000 := by omega
    have hi0 : 0 ≤ (i : Int) := by omega
    refine wpAny_tests_one ?_
    walk_at "WALKS"
    · exact intKind_is _ _ _ _
    · rename Bool => b9
      rename b9 = (!_) => hb
      rename b9 = true => hbt
      rename_i D8 n8 h8 t8 F6 N6 nd6
      have hng : (!Gs.contains (i : Int)) = true := by rw [← hgs, ← hb, hbt]
      obtain ⟨N8, nd8⟩ := rowIn (J := []) N6 nd6
      rw [stored_new (lf_none (by rw [hf1]; exact fun hm => by have := (rest_mem.mp hm).1; unfold rng at this; omega))]
      refine ⟨_, _, _, rfl, F6, N8, nd8, fs ++ [((i : Int), ⟨D8, r.ps.filter fun p => !(tk.map (·.1)).contains p.1, n8⟩)], ?_, by simp [lfKvs], ?_, ⟨by simp; omega, by omega⟩, ?_⟩
      · rw [lfRows_snoc, rowObjs_snoc, ← List.append_assoc]; rfl
      · rw [List.map_append, hf1, rest_snocT hng]; rfl
      · intro p hp
        rcases List.mem_append.mp hp with hp | hp
        · exact hf3 p hp
        · rw [List.mem_singleton.mp hp]; exact ⟨left_ix hrix htk, Nat.le_trans (List.length_filter_le _ _) hr10⟩
    · rename Bool => b9
      rename b9 = (!_) => hb
      rename b9 = false => hbt
      have hng : (!Gs.contains (i : Int)) = false := by rw [← hgs, ← hb, hbt]
      exact ⟨_, _, _, rfl, F5, N5, nd5, fs, rfl, rfl, by rw [hf1, rest_snocF hng], ⟨by omega, by omega⟩, hf3⟩
  obtain ⟨fs, rfl, rfl, hf1, hf2, hf3⟩ := hJ
  w_on
  walk1
  rename Fr _ _ _ _ => F3
  rename News _ _ _ _ => N3
  rename Nod _ => nd3
  rename Obj => oF'
  rename oF'.data = _ => cF'
  have sw := List.Perm.swap (L + 7, oF') (Lf, oLf) (NW ++ rowObjs (lfRows fs))
  exact hK Lf oLf oF' fs _ _ hf1 hf3 hD (notMods F2 B hlt) cF' F3 N3 nd3

end
section
theorem reset_MB : True := by
  w_top off
  trivial
theorem itemLtr {prog : Program} {w : World} {A : Around} {E : Value → Shared → Prop} {s : Shared} {value slice : PySem.Expr} {l : Addr} {ps : List (Nat × Nat)} {q : Nat × Nat} {n : Nat} {k : Int} {t : Tok} {Q : Value → Shared → Prop} (hk : k = 0) (hl : s.heap.get? l = some (listOf (lvals ps).toArray n))
    (hq : ps[0]? = some q) (h : Q (.str (ltr q.1) q.2) s)
    (hs : subscripted slice false (.ref l) (.int k t) = operate [.ref l, .int k t] (getItem (.ref l) (.int k t)) := by with_unfolding_all rfl) :
    wpAny (model prog w) A (subscriptTail value slice (.ref l) (.int k t)) Q E s := by
  subst hk
  refine kba_turn (value' := PySem.Expr.Name (PySem.Str.ofString "_") ⟨0, 0, 0, 0⟩) (fun _ => rfl) ?_
  exact subscriptTail_builtin (isListH hl).typeIs slot_list_getitem.lookup (wpAny_getItem_list (isListH hl) (by decide) (by decide) (by simp [lvals, hq]) h) hs (fun _ => rfl)
theorem eqLtrB {prog : Program} {w : World} {A : Around} {E : Value → Shared → Prop} {s : Shared} {i j : Nat} {t u : Tok} {Q : Value → Shared → Prop} (h : ∀ b, b = decide (i = j) → Q (.bool b) s) : wpAny (model prog w) A (compareOp .Eq (.str (ltr i) t) (.str (ltr j) u)) Q E s :=
  eq_str (h _ (by rw [Bool.eq_iff_iff]; simp [ltr_inj]))
theorem eqLtrs {prog : Program} {w : World} {A : Around} {E : Value → Shared → Prop} {s : Shared} {a b : Addr} {ps qs : List (Nat × Nat)} {n k : Nat} {Q : Value → Shared → Prop} (hl : s.heap.get? a = some (listOf (lvals ps).toArray n)) (hb : s.heap.get? b = some (listOf (lvals qs).toArray k)) (hu : A.units < cLine)
    (h : ∀ b, b = decide (ps.map (·.1) = qs.map (·.1)) → Q (.bool b) s) : wpAny (model prog w) A (compareOp .Eq (.ref a) (.ref b)) Q E s := PySem.EqBoolInt.of_rc (rcLtrs hl hb hu) (h _ rfl)
local macro_rules | `(tactic| walk_at "subscriptTail") => `(tactic| ((with_reducible show wpAny _ _ (subscriptTail _ _ (Value.ref _) (Value.int _ _)) _ _ _); k_dflt (refine itemLtr (by exact rfl) (by walk_at "HGET") (by assumption) ?_)))
local macro_rules | `(tactic| walk_at "compareOp Eq str str") => `(tactic| k_dflt (refine eqLtrB ?_; intro b9 hb9))
local macro_rules | `(tactic| walk_at "compareOp Eq") => `(tactic| ((with_reducible show wpAny _ _ (compareOp CmpOp.Eq (Value.ref _) (Value.ref _)) _ _ _); k_dflt (refine eqLtrs (by walk_at "HGET") (by walk_at "HGET") (by assumption) ?_; intro b9 hb9)))
def isDue (pd : Int → List Int) (Gs : List Int) (k : Int) : Bool := (pd k).all fun p => Gs.contains p
theorem isDue_iff {pd : Int → List Int} {Gs : List Int} {k : Int} : isDue pd Gs k = true ↔ ∀ p ∈ pd k, p ∈ Gs := by
  unfold isDue; rw [List.all_eq_true]; simp
theorem filt_self {l : List Nat} {x : Nat} : l = l.filter (fun i => decide (i = x)) ↔ ∀ i ∈ l, i = x := by
  rw [eq_comm, List.filter_eq_self]; simp
theorem dueTest {n : Nat} {ls : Int → List Nat} {ow : Nat → Int} {rm : Int → Nat} {Gs : List Int} {k : Int} {r : Rw} {q : Nat × Nat} (H : Hous n ls ow rm) (hG : ∀ g ∈ Gs, rng n g) (hg : rng n k) (hn : k ∉ Gs) (hr : r.ix = leftOf ls rm Gs k) (hq : r.ps[0]? = some q) :
    decide (r.ps.map (·.1) = (r.ps.filter fun p => decide (p.1 = q.1)).map (·.1)) = isDue (pdOf ls ow) Gs k := by
  have hx : (leftOf ls rm Gs k)[0]? = some q.1 := by rw [← hr, Rw.ix, List.getElem?_map, hq]; rfl
  rw [Bool.eq_iff_iff, decide_eq_true_iff, isDue_iff, ← due_iff H hG hg hn hx, ← hr]
  rw [show (r.ps.filter fun p => decide (p.1 = q.1)).map (·.1) = (r.ps.map (·.1)).filter fun i => decide (i = q.1) by rw [List.filter_map]; rfl]
  exact filt_self
theorem lf_at {fs : List (Int × Rw)} (hnd : (fs.map (·.1)).Nodup) {i : Nat} {p : Int × Rw} (h : fs[i]? = some p) : valueAt (lfKvs fs) p.1 = some (.ref p.2.a) := by
  induction fs generalizing i with
  | nil => cases h
  | cons x fs ih =>
    have hn := List.nodup_cons.mp hnd
    unfold valueAt lfKvs
    rw [List.map_cons, List.find?_cons]
    cases i with
    | zero => cases h; simp
    | succ i =>
      rw [List.getElem?_cons_succ] at h
      have hm : p.1 ∈ fs.map (·.1) := List.mem_map_of_mem (f := (·.1)) (List.mem_of_getElem? h)
      have hne : (x.1 == p.1) = false := by
        rw [beq_eq_false_iff_ne]; intro e; rw [← e] at hm; exact hn.1 hm
      have hne' : decide (x.1 = p.1) = false := by simpa using hne
      have := ih hn.2 h
      unfold valueAt lfKvs at this
      simp only [hne']
      exact this
theorem lvT {ps : List (Nat × Nat)} {f : Nat × Nat → Bool} {j : Nat} {x : Nat × Nat} (hx : ps[j]? = some x) (h : f x = true) : lvals ((ps.take j).filter f) ++ [.str (ltr x.1) x.2] = lvals ((ps.take (j + 1)).filter f) := by
  rw [List.take_add_one, hx, List.filter_append]; simp [lvals, h]
theorem lvF {ps : List (Nat × Nat)} {f : Nat × Nat → Bool} {j : Nat} {x : Nat × Nat} (hx : ps[j]? = some x) (h : f x = false) : lvals ((ps.take j).filter f) = lvals ((ps.take (j + 1)).filter f) := by
  rw [List.take_add_one, hx, List.filter_append]; simp [h]
theorem tkT {l : List Int} {f : Int → Bool} {i : Nat} {k : Int} {t : Nat} (h : l[i]? = some k) (hf : f k = true) : (l.take i).filter f ++ [(k, t)].map (·.1) = (l.take (i + 1)).filter f := by
  rw [List.take_add_one, h, List.filter_append]; simp [hf]
theorem tkF {l : List Int} {f : Int → Bool} {i : Nat} {k : Int} (h : l[i]? = some k) (hf : f k = false) : (l.take i).filter f = (l.take (i + 1)).filter f := by
  rw [List.take_add_one, h, List.filter_append]; simp [hf]
theorem lawDue {w : World} {A : Around} {s : Shared} {g : Heap} {L fa : Addr} {cd : Value} {name qual : Str} {params : Arguments} {body lb els rest6 : List Stmt} {t6 i6 : PySem.Expr} {p6 : Pos} {scope : Scope} {dV kV doc pm cdv ct oc : Value} {an od : Option Addr} {osl : Array (Option Value)} {Q : Flow → Shared → Prop} {E : Value → Shared → Prop}
    {m : Str → Option Value} {Lf : Addr} {oF oLf : Obj} {NW : List (Addr × Obj)} {fs : List (Int × Rw)} {n : Nat} {ls : Int → List Nat} {ow : Nat → Int} {rm : Int → Nat} {Gs : List Int}
    (ho : (hd.heap_39 w.params).lookup 207 = some ⟨oc, od, .func (fnOf name qual params body scope dV kV doc pm an cdv ct), osl⟩) (hb : body.drop 6 = Stmt.For t6 i6 lb els p6 :: rest6)
    (hA : A.frames = some []) (hroom : A.depth < 410) (hu : A.units < 10) (hh : A.handled = none) (B : Bs w g)
    (F : Fr g L s.heap m) (N : News g L s.heap ((Lf, oLf) :: (L + 7, oF) :: NW)) (nd : Nod ((Lf, oLf) :: (L + 7, oF) :: NW))
    (hlo : (Lf == sysModules) = false) (hD : oLf.IsDictOf (intKind Challenge.pw_ij0208_01 w) (lfKvs fs)) (cF : oF.data = .cell (some (.ref Lf))) (mF : ∀ p ∈ fs, (p.2.a, listOf (lvals p.2.ps).toArray p.2.n) ∈ NW)
    (hn : n ≤ 5) (hfk : fs.map (·.1) = restOf n Gs) (hfs : ∀ p ∈ fs, p.2.ix = leftOf ls rm Gs p.1 ∧ p.2.ps.length ≤ 10)
    (H : Hous n ls ow rm) (hG : ∀ g ∈ Gs, rng n g)
    (hK : ∀ Du ds dn h' t', ds.map (·.1) = (restOf n Gs).filter (isDue (pdOf ls ow) Gs) → Fr g L h' (fun y => if y = Str.ofString "due" then some (.ref Du) else m y) →
      News g L h' ((Du, listOf (ivals ds).toArray dn) :: (Lf, oLf) :: (L + 7, oF) :: NW) → Nod ((Du, listOf (ivals ds).toArray dn) :: (Lf, oLf) :: (L + 7, oF) :: NW) →
      wpAny (model Challenge.pw_ij0208_01 w) (A.deeper (envOfC qual scope L fa cd)) (execs (lb.drop 2) (envOfC qual scope L fa cd)) Q E { s with heap := h', toks := t' }) :
    wpAny (model Challenge.pw_ij0208_01 w) (A.deeper (envOfC qual scope L fa cd)) (execs (lb.drop 1) (envOfC qual scope L fa cd)) Q E s := by
  have e := ho.symm.trans (rfl : (hd.heap_39 w.params).lookup 207 = some _)
  cases e
  clear ho
  cases hb
  dsimp only [List.drop] at hK ⊢
  have hcl : A.units + 3 < cLine := by rw [cLine_is]; omega
  have hfn : (fs.map (·.1)).Nodup := by rw [hfk]; exact rest_nod n Gs
  have hfl : fs.length ≤ n := by
    have h2 : (restOf n Gs).length ≤ n := by
      have := List.length_filter_le (fun k => !Gs.contains k) ((List.range n).map fun (k : Nat) => (k : Int))
      rw [List.length_map, List.length_range] at this
      exact this
    rw [← hfk, List.length_map] at h2; exact h2
  have hkl : (lfKvs fs).length = fs.length := by simp [lfKvs]
  walk_at "WALKS"
  refine assignC F (by rfl) (by rfl) rfl (by decide) (fun _ => rfl) (fun _ => rfl) (fun _ _ => rfl) ?_
  walk_at "WALKS"
  refine Halt.go ?_
  refine srcKeys (g := g) hh hlo hD (N _ (.head _)).1 fun it s₂ src => ?_
  refine ⟨_, _, _, _, _, fun i ys nw => nw = (Lf, oLf) :: (L + 7, oF) :: NW ∧ ∃ ds : List (Int × Nat), ys = ivals ds ∧ (ds.length ≤ i ∧ i ≤ n) ∧ ds.map (·.1) = ((fs.map (·.1)).take i).filter (isDue (pdOf ls ow) Gs),
    src, F, N, nd, ⟨rfl, [], rfl, ⟨Nat.le_refl _, Nat.zero_le _⟩, rfl⟩, fun i ys nw hJ => by rw [hJ.1]; exact .inl (.head _), ?_, ?_, useLocal rfl rfl rfl fun Du h3 tk3 ys nw hJ F5 N5 nd5 => ?_⟩
  · rintro i ys nw ⟨rfl, ds, rfl, ⟨h1, h2⟩, h3⟩; simp only [List.length_map]; omega
  · rintro i v ys nw I2 oI2 C oC c oc D2 h3 tk3 E' ⟨p0, tv, hp0, rfl⟩ ⟨rfl, ds, rfl, ⟨hd1, hd2⟩, hd3⟩ hoc F5 N5 nd5
    obtain ⟨p, hp, rfl⟩ : ∃ p, fs[i]? = some p ∧ p0 = (p.1, .ref p.2.a) := by
      unfold lfKvs at hp0
      rw [List.getElem?_map, Option.map_eq_some_iff] at hp0
      obtain ⟨p, hp, e⟩ := hp0
      exact ⟨p, hp, e.symm⟩
    have hval := lf_at hfn hp
    have hpm := List.mem_of_getElem? hp
    have g1 := mF p hpm
    obtain ⟨hpix, hp10⟩ := hfs p hpm
    have hpr : p.1 ∈ restOf n Gs := by rw [← hfk]; exact List.mem_map_of_mem (f := (·.1)) hpm
    obtain ⟨hprn, hpG⟩ := rest_mem.mp hpr
    obtain ⟨q, hq⟩ : ∃ q, p.2.ps[0]? = some q := by
      have := left_own H hG hprn hpG
      rw [← hpix] at this
      obtain ⟨q, hq, _⟩ := List.mem_map.mp this
      exact ⟨p.2.ps[0]'(List.length_pos_of_mem hq), List.getElem?_eq_getElem _⟩
    dsimp only
    walk_at "WALKS"
    refine Halt.go ?_
    rw [eval_ListComp]
    refine compT (use := none) F5 (by rfl) (by decide) rfl (by decide) (by decide) ?_
    walk_at "WALKS"
    refine Halt.go ?_
    refine srcList (g := g) hh (N5 _ (.tail _ (.tail _ (.tail _ (.tail _ (.tail _ (.tail _ g1))))))).1 fun it s₂ src2 => ?_
    refine ⟨_, _, _, _, _, fun j ys nw => nw = (I2, oI2) :: (C, oC) :: (c, oc) :: (D2, listOf (ivals ds).toArray (ivals ds).length) :: (Lf, oLf) :: (L + 7, oF) :: NW ∧ ys = lvals ((p.2.ps.take j).filter fun x => decide (x.1 = q.1)),
      src2, by rw [sizeLine_eq]; simp [lvals]; omega, F5, N5, nd5, ⟨rfl, rfl⟩, fun i ys nw hJ => by rw [hJ.1]; exact .inl (.tail _ (.tail _ (.tail _ (.tail _ (.tail _ (.tail _ g1)))))), ?_, finEval fun D5 h6 tk6 ys nw hJ F11 N11 nd11 => ?_⟩
    · rintro j v ys nw I3 oI3 C3 oC3 D3 m₃ h4 tk4 E4 hP ⟨rfl, rfl⟩ hC3 hv3 F6 N6 nd6
      obtain ⟨x, hx, rfl⟩ : ∃ x, p.2.ps[j]? = some x ∧ v = .str (ltr x.1) x.2 := by
        simp only [lvals, List.getElem?_toArray, List.getElem?_map, Option.map_eq_some_iff] at hP
        obtain ⟨x, hx, e⟩ := hP
        exact ⟨x, hx, e.symm⟩
      walk_at "WALKS"
      · rename Bool => b9
        rename b9 = decide _ => hb
        rename b9 = true => hbt
        exact ⟨_, _, _, rfl, F6, N6, nd6, rfl, lvT hx (hb.symm.trans hbt)⟩
      · rename Bool => b9
        rename b9 = decide _ => hb
        rename b9 = false => hbt
        exact ⟨_, _, _, rfl, F6, N6, nd6, rfl, lvF hx (hb.symm.trans hbt)⟩
    obtain ⟨rfl, rfl⟩ := hJ
    rw [show p.2.ps.take (lvals p.2.ps).toArray.size = p.2.ps from List.take_of_length_le (by simp [lvals])] at N11 nd11
    have dt := dueTest H hG hprn hpG hpix hq
    have hti : ((fs.map (·.1))[i]?) = some p.1 := by rw [List.getElem?_map, hp]; rfl
    have hsub : ((I2, oI2) :: (C, oC) :: (c, oc) :: (D2, listOf (ivals ds).toArray (ivals ds).length) :: (Lf, oLf) :: (L + 7, oF) :: NW).Sublist ((D5, listOf (lvals (p.2.ps.filter fun x => decide (x.1 = q.1))).toArray (lvals (p.2.ps.filter fun x => decide (x.1 = q.1))).length) :: (I2, oI2) :: (C, oC) :: (c, oc) :: (D2, listOf (ivals ds).toArray (ivals ds).length) :: (Lf, oLf) :: (L + 7, oF) :: NW) := .cons _ (.refl _)
    clear F5 N5 nd5 src src2
    walk_at "WALKS"
    · rename Bool => b9
      rename b9 = decide _ => hb
      rename b9 = true => hbt
      exact ⟨_, _, _, rfl, F11, newsSub N11 fun q hq => hsub.subset hq, nodSub nd11 hsub, rfl, ds ++ [(p.1, tv)], ivals_snoc _ _ _, ⟨by simp; omega, by have := (List.getElem?_eq_some_iff.mp hp).1; omega⟩, by rw [List.map_append, hd3]; exact tkT hti (dt.symm.trans (hb.symm.trans hbt))⟩
    · rename Bool => b9
      rename b9 = decide _ => hb
      rename b9 = false => hbt
      exact ⟨_, _, _, rfl, F11, newsSub N11 fun q hq => hsub.subset hq, nodSub nd11 hsub, rfl, ds, rfl, ⟨by omega, by have := (List.getElem?_eq_some_iff.mp hp).1; omega⟩, by rw [hd3]; exact tkF hti (dt.symm.trans (hb.symm.trans hbt))⟩
  obtain ⟨rfl, ds, rfl, hd2, hd3⟩ := hJ
  rw [hkl, List.take_of_length_le (by rw [List.length_map]; exact Nat.le_refl _), hfk] at hd3
  exact hK Du ds _ _ _ hd3 F5 N5 nd5

end
section
theorem reset_MC : True := by
  w_top off
  trivial
theorem neIvals {prog : Program} {w : World} {A : Around} {E : Value → Shared → Prop} {s : Shared} {a b : Addr} {ps qs : List (Int × Nat)} {n k : Nat} {Q : Value → Shared → Prop} (hl : s.heap.get? a = some (listOf (ivals ps).toArray n)) (hb : s.heap.get? b = some (listOf (ivals qs).toArray k)) (hu : A.units < cLine)
    (h : ∀ b, b = !decide (ps.map (·.1) = qs.map (·.1)) → Q (.bool b) s) : wpAny (model prog w) A (compareOp .NotEq (.ref a) (.ref b)) Q E s := PySem.EqBoolInt.of_rcne (rcnIvals hl hb hu) (h _ rfl)
theorem eqNil {prog : Program} {w : World} {A : Around} {E : Value → Shared → Prop} {s : Shared} {a b : Addr} {vs : List Value} {n k : Nat} {Q : Value → Shared → Prop} (hl : s.heap.get? a = some (listOf vs.toArray n)) (hb : s.heap.get? b = some (listOf #[] k)) (hu : A.units < cLine)
    (h : ∀ b, b = vs.isEmpty → Q (.bool b) s) : wpAny (model prog w) A (compareOp .Eq (.ref a) (.ref b)) Q E s := by
  refine PySem.EqBoolInt.of_rc (rcLists (vs.map fun _ => ()) [] (isListH hl) (isListH hb) (by simp) rfl hu (fun j h1 h2 => absurd h2 (Nat.not_lt_zero _))) (h _ ?_)
  cases vs <;> rfl
local macro_rules | `(tactic| walk_at "compareOp NotEq") => `(tactic| ((with_reducible show wpAny _ _ (compareOp CmpOp.NotEq (Value.ref _) (Value.ref _)) _ _ _); k_dflt (refine neIvals (by walk_at "HGET") (by walk_at "HGET") (by assumption) ?_; intro b9 hb9)))
local macro_rules | `(tactic| walk_at "compareOp Eq") => `(tactic| ((with_reducible show wpAny _ _ (compareOp CmpOp.Eq (Value.ref _) (Value.ref _)) _ _ _); k_dflt (refine eqNil (by walk_at "HGET") (by walk_at "HGET") (by assumption) ?_; intro b9 hb9)))
local macro_rules | `(tactic| walk_at "call builtin:sorted") => `(tactic| k_dflt ((rename Nod _ => nd9); refine sortedTupF (by assumption) (by assumption) nd9 (by walk_at "HGET") (by assumption) ?_; intro D' ps' e' h' F' N' nd' pm' so'; clear nd9))
local macro_rules | `(tactic| walk_at "call builtin:isinstance") => `(tactic| ((with_reducible show wpAny _ _ (call _ [Value.ref _, Value.type "tuple"]) _ _ _); k_dflt (refine PySem.IsiPair.tuple_tuple (by walk_at "HGET") (by exact rfl) ?_)))
local macro_rules | `(tactic| walk_at "execs cons") => `(tactic| ((with_reducible show wpAny _ _ (execs (Stmt.For _ _ _ _ _ :: _) _) _ _ _); refine Halt.go ?_))
theorem sorted_same {a b : List Int} (hp : a.Perm b) (ha : a.Pairwise (· ≤ ·)) (hb : b.Pairwise (· ≤ ·)) : a = b := PySem.W.ksm_same hp ha hb
theorem rest_sorted (n : Nat) (Gs : List Int) (f : Int → Bool) : ((restOf n Gs).filter f).Pairwise (· ≤ ·) := by
  unfold restOf
  refine List.Pairwise.filter _ (List.Pairwise.filter _ (List.pairwise_map.mpr ?_))
  exact List.Pairwise.imp (fun h => by omega) (List.pairwise_lt_range (n := n))
theorem lawCheck {w : World} {A : Around} {s : Shared} {g : Heap} {L fa : Addr} {cd : Value} {name qual : Str} {params : Arguments} {body lb els rest6 : List Stmt} {t6 i6 : PySem.Expr} {p6 : Pos} {scope : Scope} {dV kV doc pm cdv ct oc : Value} {an od : Option Addr} {osl : Array (Option Value)} {Q : Flow → Shared → Prop} {E : Value → Shared → Prop}
    {m : Str → Option Value} {x dx D R Du : Addr} {d : SD} {np : Int} {oD : Obj} {rd ds : List (Int × Nat)} {nodes : List Nd} {rn dn n : Nat} {NW : List (Addr × Obj)} {Gs : List Int} {pd : Int → List Int}
    (ho : (hd.heap_39 w.params).lookup 207 = some ⟨oc, od, .func (fnOf name qual params body scope dV kV doc pm an cdv ct), osl⟩) (hb : body.drop 6 = Stmt.For t6 i6 lb els p6 :: rest6)
    (hA : A.frames = some []) (hroom : A.depth < 410) (hu : A.units < 10) (hh : A.handled = none) (B : Bs w g)
    (F : Fr g L s.heap fun y => if y = Str.ofString "due" then some (.ref Du) else if y = Str.ofString "sorter" then some (.ref x) else m y)
    (N : News g L s.heap ((x, sobj dx) :: (dx, sdict d (.ref D) (.ref R) np np) :: (D, oD) :: (R, listOf (ivals rd).toArray rn) :: (famOf nodes ++ NW)))
    (nd : Nod ((x, sobj dx) :: (dx, sdict d (.ref D) (.ref R) np np) :: (D, oD) :: (R, listOf (ivals rd).toArray rn) :: (famOf nodes ++ NW)))
    (mD : (Du, listOf (ivals ds).toArray dn) ∈ NW) (hn : n ≤ 5) (hD : oD.IsDictOf (intKind Challenge.pw_ij0208_01 w) (kvsOf nodes))
    (hin : ∀ p ∈ rd, ∃ (j : Nat) (d : Nd), nodes[j]? = some d ∧ d.key = p.1)
    (K : Kahn n pd Gs (rd.map (·.1))) (hds : ds.map (·.1) = (restOf n Gs).filter (isDue pd Gs))
    (hB : ∀ h' t' T d' n' vA nodes', rd = [] → Fr g L h' (fun y => if y = Str.ofString "active" then some (.bool vA) else if y = Str.ofString "ready" then some (.ref T) else if y = Str.ofString "due" then some (.ref Du) else if y = Str.ofString "sorter" then some (.ref x) else m y) →
      News g L h' ((T, tupObj (ivals rd)) :: (x, sobj dx) :: (dx, sdict d' (.ref D) (.ref R) (np + rd.length) np) :: (D, oD) :: (R, listOf #[] n') :: (famOf nodes' ++ NW)) → Nod ((T, tupObj (ivals rd)) :: (x, sobj dx) :: (dx, sdict d' (.ref D) (.ref R) (np + rd.length) np) :: (D, oD) :: (R, listOf #[] n') :: (famOf nodes' ++ NW)) →
      Q .brk { s with heap := h', toks := t' })
    (hK : ∀ h' t' T d' n' vA nodes', NpAre (fun d => if d.key ∈ rd.map (·.1) then -1 else d.np) nodes nodes' → Fr g L h' (fun y => if y = Str.ofString "active" then some (.bool vA) else if y = Str.ofString "ready" then some (.ref T) else if y = Str.ofString "due" then some (.ref Du) else if y = Str.ofString "sorter" then some (.ref x) else m y) →
      News g L h' ((T, tupObj (ivals rd)) :: (x, sobj dx) :: (dx, sdict d' (.ref D) (.ref R) (np + rd.length) np) :: (D, oD) :: (R, listOf #[] n') :: (famOf nodes' ++ NW)) → Nod ((T, tupObj (ivals rd)) :: (x, sobj dx) :: (dx, sdict d' (.ref D) (.ref R) (np + rd.length) np) :: (D, oD) :: (R, listOf #[] n') :: (famOf nodes' ++ NW)) →
      wpAny (model Challenge.pw_ij0208_01 w) (A.deeper (envOfC qual scope L fa cd)) (execs (lb.drop 6) (envOfC qual scope L fa cd)) Q E { s with heap := h', toks := t' }) :
    wpAny (model Challenge.pw_ij0208_01 w) (A.deeper (envOfC qual scope L fa cd)) (execs (lb.drop 2) (envOfC qual scope L fa cd)) Q E s := by
  have e := ho.symm.trans (rfl : (hd.heap_39 w.params).lookup 207 = some _)
  cases e
  clear ho
  cases hb
  dsimp only [List.drop] at hK ⊢
  have hcl : A.units + 3 < cLine := by rw [cLine_is]; omega
  have hrl : rd.length ≤ n := by
    have h1 := nod_le (l := rd.map (·.1)) (keys := (List.range n).map fun (k : Nat) => (k : Int)) K.nodR fun k hk => List.mem_map.mpr ⟨k.toNat, List.mem_range.mpr (by have := ((K.memR k).mp hk).1; unfold rng at this; omega), by have := ((K.memR k).mp hk).1; unfold rng at this; omega⟩
    simpa using h1
  have hr64 : rd.length < 64 := by omega
  walk_at "WALKS"
  refine isActive (B.keeps F.keep) (N _ (.head _)).1 (N _ (.tail _ (.head _))).1 (N _ (.tail _ (.tail _ (.tail _ (.head _))))).1 (by simp; omega) (by first | exact dD hroom (by decide) | omega) (by first | exact uD hu (by decide) | omega) (by exact hh) ?_
  intro vA h2 t2 hvA st
  have F2 := frStays F st
  have N2 := newsStays N st
  clear F N st
  walk_at "WALKS"
  obtain ⟨WS, hWS⟩ : ∃ WS, WS = (x, sobj dx) :: (dx, sdict d (.ref D) (.ref R) np np) :: (D, oD) :: (R, listOf (ivals rd).toArray rn) :: famOf nodes := ⟨_, rfl⟩
  replace N2 : News g L h2 (WS ++ NW) := by rw [hWS]; exact N2
  replace nd : Nod (WS ++ NW) := by rw [hWS]; exact nd
  refine getReady hD (hWS ▸ newsHave (W := WS) N2) (hWS ▸ bsHide (W := WS) F2 B N2) (hWS ▸ nodL (W := WS) nd) hin (by omega) (by first | exact dD hroom (by decide) | omega) (by first | exact uD hu (by decide) | omega) (by exact hh) ?_
  intro T d' n' nodes' h3 t3 hnp O
  obtain ⟨F3, N3, nd3⟩ := back (W := WS) F2 N2 nd (hWS ▸ O)
  replace N3 : News g L h3 ((T, tupObj (ivals rd)) :: (x, sobj dx) :: (dx, sdict d' (.ref D) (.ref R) (np + rd.length) np) :: (D, oD) :: (R, listOf #[] n') :: (famOf nodes' ++ NW)) := N3
  replace nd3 : Nod ((T, tupObj (ivals rd)) :: (x, sobj dx) :: (dx, sdict d' (.ref D) (.ref R) (np + rd.length) np) :: (D, oD) :: (R, listOf #[] n') :: (famOf nodes' ++ NW)) := nd3
  clear F2 N2 nd O
  have hperm : (rd.map (·.1)).Perm (ds.map (·.1)) := by
    rw [hds]
    refine (List.perm_ext_iff_of_nodup K.nodR (List.Pairwise.filter _ (rest_nod n Gs))).mpr fun k => ?_
    rw [K.memR, List.mem_filter, rest_mem, isDue_iff]
    constructor
    · rintro ⟨h1, h2, h3⟩; exact ⟨⟨h1, h2⟩, h3⟩
    · rintro ⟨⟨h1, h2⟩, h3⟩; exact ⟨h1, h2, h3⟩
  have hlen : rd.length = ds.length := by have := hperm.length_eq; simpa using this
  have hvA' : vA = decide (0 < rd.length) := by rw [hvA]; cases rd <;> simp
  have hdE : (!(ivals ds).isEmpty) = decide (0 < rd.length) := by rw [hlen]; cases ds <;> simp
  walk_at "WALKS"
  · exfalso
    rename_i D8 ps e8 h8 F8 N8 nd8 pm so b9 hb9 hbt
    rw [hb9, sorted_same (pm.trans hperm) so (hds ▸ rest_sorted n Gs _)] at hbt
    simp at hbt
  · exfalso
    rename_i b9 hb9 hbt
    rw [hb9, hdE, hvA'] at hbt
    simp at hbt
  rename Fr _ _ _ _ => F5
  rename News _ _ _ _ => N5
  rename Nod _ => nd5
  refine isActive (B.keeps (by exact F5.keep)) (N5 _ (.tail _ (.tail _ (.tail _ (.tail _ (.head _)))))).1 (N5 _ (.tail _ (.tail _ (.tail _ (.tail _ (.tail _ (.head _))))))).1 (N5 _ (.tail _ (.tail _ (.tail _ (.tail _ (.tail _ (.tail _ (.tail _ (.head _))))))))).1 (by simp) (by first | exact dD hroom (by decide) | omega) (by first | exact uD hu (by decide) | omega) (by exact hh) ?_
  intro vB h6 t6 hvB st
  have F6 := frStays F5 st
  have N6 := newsStays N5 st
  clear F5 N5 st
  have hvB' : vB = decide (0 < rd.length) := by
    rw [hvB, Bool.eq_iff_iff]; simp; omega
  walk_at "WALKS"
  · exfalso
    rename (vB != vA) = true => hbt
    rw [hvB', hvA'] at hbt
    simp at hbt
  · rename_i b9 hb9 hbt
    rename Fr _ _ _ _ => F7
    rename News _ _ _ _ => N7
    rename Nod _ => nd7
    have hr0 : rd = [] := by
      rw [hbt] at hb9
      have : ds = [] := by cases ds with | nil => rfl | cons => simp at hb9
      rw [this] at hlen
      exact List.length_eq_zero_iff.mp hlen
    exact hB _ _ T d' n' vA nodes' hr0 F7 (newsSub N7 fun q hq => .tail _ (.tail _ (.tail _ (.tail _ hq)))) (nodSub nd7 (.cons _ (.cons _ (.cons _ (.cons _ (.refl _))))))
  · rename Fr _ _ _ _ => F7
    rename News _ _ _ _ => N7
    rename Nod _ => nd7
    exact hK _ _ T d' n' vA nodes' hnp F7 (newsSub N7 fun q hq => .tail _ (.tail _ (.tail _ (.tail _ hq)))) (nodSub nd7 (.cons _ (.cons _ (.cons _ (.cons _ (.refl _))))))

end
section
theorem reset_MD : True := by
  w_top off
  trivial
open PyProof.Rows.LCg PyProof.Rows.LCt PyProof.V PySem.Spec
theorem srcTup {prog : Program} {w : World} {A : Around} {E : Value → Shared → Prop} {s : Shared} {g : Heap} {l : Addr} {vs : List Value} {Q : Value → Shared → Prop} (hh : A.handled = none) (hl : s.heap.get? l = some (tupObj vs))
    (h : ∀ it s₂, Src prog w A g s vs.toArray.size (fun i v => vs.toArray[i]? = some v) (Stands g l (tupObj vs)) it s₂ → Q it s₂) : wpAny (model prog w) A (pyIter (.ref l)) Q E s := by
  have mk : ∀ h : Heap, h.get? l = some (tupObj vs) → h.IsTuple l vs.toArray := fun h e => ⟨_, e, rfl, _, rfl⟩
  have hL := mk _ hl
  have hlt := Heap.lt_size hl
  refine wpAny_pyIter_tuple hL (h _ _ ⟨s.heap.objs.size, _, _, _, rfl, rfl, rfl, Walks.tuple hh s.heap.objs.size l (Nat.ne_of_lt hlt) vs.toArray, ?_, ?_, ⟨⟨_, Heap.get?_push_size _ rfl, rfl, rfl⟩, mk _ (Heap.get?_push_of_some _ hl)⟩, ?_⟩)
  · rintro i h ⟨⟨o, ho, _⟩, _⟩; exact ⟨o, ho⟩
  · rintro i h h' o nw ⟨⟨o', q, r⟩, _⟩ e e' hg hn hS
    rw [e] at q; cases q
    exact ⟨⟨o, e', r⟩, mk _ (hS.get hn hg)⟩
  · intro b hb
    show b < (s.heap.push _).objs.size
    rw [Heap.size_push]
    rcases List.mem_cons.mp hb with rfl | hb
    · exact Nat.lt_succ_self _
    · rw [List.mem_singleton.mp hb]; exact Nat.lt_succ_of_lt hlt
local macro_rules | `(tactic| walk_at "subscriptTail") => `(tactic| ((with_reducible show wpAny _ _ (subscriptTail _ _ (Value.ref _) (Value.int _ _)) _ _ _); k_dflt (refine itemLtr (by exact rfl) (by walk_at "HGET") (by assumption) ?_)))
theorem ivals_push (rs : List (Int × Nat)) (i : Int) (t : Nat) : (ivals rs).toArray.push (.int i t) = (ivals (rs ++ [(i, t)])).toArray := by simp
theorem lvals_push (rs : List (Nat × Nat)) (i t : Nat) : (lvals rs).toArray.push (.str (ltr i) t) = (lvals (rs ++ [(i, t)])).toArray := by simp [lvals]
theorem copies_snoc (ls : Int → List Nat) (rm : Int → Nat) (Gs : List Int) (k : Int) : copiesOf ls rm (Gs ++ [k]) = copiesOf ls rm Gs * cgOf ls rm k := by
  unfold copiesOf; rw [List.foldl_append]; rfl
inductive GiveJ (ls : Int → List Nat) (rm : Int → Nat) (Gv Tk T : Addr) (gs rd : List (Int × Nat)) (Gs : List Int) (NW : List (Addr × Obj)) (m : Str → Option Value) (i : Nat) (m' : Str → Option Value) (nw : List (Addr × Obj)) : Prop
  | mk (gn' : _) (tn' : _) (tk' : _) (ct'' : _) (ug : _) (a0 : nw = (Gv, listOf (ivals (gs ++ rd.take i)).toArray gn') :: (Tk, listOf (lvals tk').toArray tn') :: NW) (a1 : (m' = fun y => if y = Str.ofString "ready" then some (.ref T) else if y = Str.ofString "copies" then some (.int (copiesOf ls rm (Gs ++ (rd.take i).map (·.1)) : Nat) ct'') else if y = Str.ofString "g" then ug else m y)) (a2 : tk'.map (·.1) = (Gs ++ (rd.take i).map (·.1)).map rm) : GiveJ ls rm Gv Tk T gs rd Gs NW m i m' nw
theorem lawGive {w : World} {A : Around} {s : Shared} {g : Heap} {L fa : Addr} {cd : Value} {name qual : Str} {params : Arguments} {body lb els rest6 : List Stmt} {t6 i6 : PySem.Expr} {p6 : Pos} {scope : Scope} {dV kV doc pm cdv ct oc : Value} {an od : Option Addr} {osl : Array (Option Value)} {Q : Flow → Shared → Prop} {E : Value → Shared → Prop}
    {m : Str → Option Value} {Gv Tk T Lf : Addr} {oT oG oF oLf : Obj} {gs rd : List (Int × Nat)} {tk : List (Nat × Nat)} {fs : List (Int × Rw)} {gn tn ct' n : Nat} {cp : Int} {NW : List (Addr × Obj)} {Gs R : List Int} {ls : Int → List Nat} {ow : Nat → Int} {rm : Int → Nat}
    (ho : (hd.heap_39 w.params).lookup 207 = some ⟨oc, od, .func (fnOf name qual params body scope dV kV doc pm an cdv ct), osl⟩) (hb : body.drop 6 = Stmt.For t6 i6 lb els p6 :: rest6)
    (hE : PassesOwn (model Challenge.pw_ij0208_01 w) (A.deeper (envOfC qual scope L fa cd)) (envOfC qual scope L fa cd) E)
    (hA : A.frames = some []) (hroom : A.depth < 410) (hu : A.units < 10) (hh : A.handled = none) (B : Bs w g)
    (F : Fr g L s.heap fun y => if y = Str.ofString "ready" then some (.ref T) else if y = Str.ofString "copies" then some (.int cp ct') else m y)
    (N : News g L s.heap ((Gv, listOf (ivals gs).toArray gn) :: (Tk, listOf (lvals tk).toArray tn) :: NW))
    (nd : Nod ((Gv, listOf (ivals gs).toArray gn) :: (Tk, listOf (lvals tk).toArray tn) :: NW))
    (mT : (L + 6, oT) ∈ NW) (mG : (L + 5, oG) ∈ NW) (mF : (L + 7, oF) ∈ NW) (mLf : (Lf, oLf) ∈ NW) (mTu : (T, tupObj (ivals rd)) ∈ NW) (mfs : ∀ p ∈ fs, (p.2.a, listOf (lvals p.2.ps).toArray p.2.n) ∈ NW)
    (cT : oT.data = .cell (some (.ref Tk))) (cG : oG.data = .cell (some (.ref Gv))) (cF : oF.data = .cell (some (.ref Lf)))
    (hD : oLf.IsDictOf (intKind Challenge.pw_ij0208_01 w) (lfKvs fs))
    (hn : n ≤ 5) (hfk : fs.map (·.1) = restOf n Gs) (hfs : ∀ p ∈ fs, p.2.ix = leftOf ls rm Gs p.1 ∧ p.2.ps.length ≤ 10)
    (H : Hous n ls ow rm) (K : Kahn n (pdOf ls ow) Gs (rd.map (·.1))) (hgs : gs.map (·.1) = Gs) (htk : tk.map (·.1) = Gs.map rm) (hcp : cp = (copiesOf ls rm Gs : Nat))
    (hK : ∀ h' t' gn' tn' ct'' tk' ug, tk'.map (·.1) = (Gs ++ rd.map (·.1)).map rm → Fr g L h' (fun y => if y = Str.ofString "ready" then some (.ref T) else if y = Str.ofString "copies" then some (.int (copiesOf ls rm (Gs ++ rd.map (·.1)) : Nat) ct'') else if y = Str.ofString "g" then ug else m y) →
      News g L h' ((Gv, listOf (ivals (gs ++ rd)).toArray gn') :: (Tk, listOf (lvals tk').toArray tn') :: NW) → Nod ((Gv, listOf (ivals (gs ++ rd)).toArray gn') :: (Tk, listOf (lvals tk').toArray tn') :: NW) →
      wpAny (model Challenge.pw_ij0208_01 w) (A.deeper (envOfC qual scope L fa cd)) (execs (lb.drop 7) (envOfC qual scope L fa cd)) Q E { s with heap := h', toks := t' }) :
    wpAny (model Challenge.pw_ij0208_01 w) (A.deeper (envOfC qual scope L fa cd)) (execs (lb.drop 6) (envOfC qual scope L fa cd)) Q E s := by
  have e := ho.symm.trans (rfl : (hd.heap_39 w.params).lookup 207 = some _)
  cases e
  clear ho
  cases hb
  dsimp only [List.drop] at hK ⊢
  have hfn : (fs.map (·.1)).Nodup := by rw [hfk]; exact rest_nod n Gs
  have hrl : rd.length ≤ n := by
    have h1 := nod_le (l := rd.map (·.1)) (keys := (List.range n).map fun (k : Nat) => (k : Int)) K.nodR fun k hk => List.mem_map.mpr ⟨k.toNat, List.mem_range.mpr (by have := ((K.memR k).mp hk).1; unfold rng at this; omega), by have := ((K.memR k).mp hk).1; unfold rng at this; omega⟩
    simpa using h1
  have hgl : gs.length ≤ n := by
    have h1 := nod_le (l := Gs) (keys := (List.range n).map fun (k : Nat) => (k : Int)) K.nodG fun k hk => List.mem_map.mpr ⟨k.toNat, List.mem_range.mpr (by have := K.rngG k hk; unfold rng at this; omega), by have := K.rngG k hk; unfold rng at this; omega⟩
    rw [← hgs] at h1; simpa using h1
  w_on
  walk1
  refine Halt.go ?_
  refine forJ F (hE := hE) ?_
  walk_at "WALKS"
  refine Halt.go ?_
  refine srcTup (g := g) hh (N _ (.tail _ (.tail _ mTu))).1 fun it s₂ src => ?_
  refine ⟨_, _, _, _, _, _, GiveJ ls rm Gv Tk T gs rd Gs NW m,
    src, F, N, nd, ⟨gn, tn, tk, ct', m (Str.ofString "g"), by simp, ?_, by simpa using htk⟩, fun i m' nw hJ => by obtain ⟨_, _, _, _, _, rfl, _⟩ := hJ; exact .inl (.tail _ (.tail _ mTu)), ?_, ?_⟩
  · funext y
    subst hcp
    by_cases h1 : y = Str.ofString "g"
    · subst h1; simp
    · simp [h1]
  · rintro i v m₁ nw I oI h tk1 hI hP ⟨gn', tn', tk', ct'', ug, rfl, rfl, htk'⟩ F2 N2 nd2
    obtain ⟨p, hp, rfl⟩ : ∃ p, rd[i]? = some p ∧ v = .int p.1 p.2 := by
      rw [List.getElem?_toArray, List.getElem?_map, Option.map_eq_some_iff] at hP
      obtain ⟨p, hp, e⟩ := hP
      exact ⟨p, hp, e.symm⟩
    have hpR : p.1 ∈ rd.map (·.1) := List.mem_map_of_mem (f := (·.1)) (List.mem_of_getElem? hp)
    obtain ⟨hprn, hpG, hppd⟩ := (K.memR _).mp hpR
    obtain ⟨f, hf, hfe⟩ : ∃ f ∈ fs, f.1 = p.1 := List.mem_map.mp (by rw [hfk]; exact rest_mem.mpr ⟨hprn, hpG⟩)
    obtain ⟨j, hj⟩ := List.getElem?_of_mem hf
    have hval := lf_at hfn hj
    rw [hfe] at hval
    have g1 := mfs f hf
    obtain ⟨hfix, hf10⟩ := hfs f hf
    rw [hfe, left_rep H K.rngG hprn hpG hppd] at hfix
    obtain ⟨q, hq⟩ : ∃ q, f.2.ps[0]? = some q := by
      have := left_own H K.rngG hprn hpG
      rw [left_rep H K.rngG hprn hpG hppd, ← hfix] at this
      obtain ⟨q, hq, _⟩ := List.mem_map.mp this
      exact ⟨f.2.ps[0]'(List.length_pos_of_mem hq), List.getElem?_eq_getElem _⟩
    have hq1 : q.1 = rm p.1 := by
      have : q.1 ∈ f.2.ix := List.mem_map_of_mem (f := (·.1)) (List.mem_of_getElem? hq)
      rw [hfix] at this
      exact (List.mem_replicate.mp this).2
    have hlen : f.2.ps.length = cgOf ls rm p.1 := by
      have := congrArg List.length hfix
      rw [List.length_replicate] at this
      rw [← this]; exact (List.length_map _).symm
    have hi : i < rd.length := (List.getElem?_eq_some_iff.mp hp).1
    have hz1 : (ivals (gs ++ rd.take i)).toArray.size < 1000 := by simp; omega
    have hz2 : (lvals tk').toArray.size < 1000 := by
      have := congrArg List.length htk'
      simp only [List.length_map, List.length_append, ← hgs, List.length_take] at this
      simp [lvals]; omega
    have hz3 : (lvals f.2.ps).length = cgOf ls rm p.1 := by rw [← hlen]; simp [lvals]
    have hz4 : cgOf ls rm p.1 ≤ 10 := by rw [← hlen]; exact hf10
    have et : rd.take (i + 1) = rd.take i ++ [p] := by rw [List.take_add_one, hp]; rfl
    walk_at "WALKS"
    rename_i b9 h9 F6 N6 hs9 hn9
    rename Nod _ => nd6
    rw [ivals_push, lvals_push, List.append_assoc, show [((p.1 : Int), p.2)] = [p] from rfl, ← et] at N6 nd6
    rw [hz3, ← Int.natCast_mul, ← copies_snoc, List.append_assoc, show (rd.take i).map (·.1) ++ [p.1] = (rd.take (i + 1)).map (·.1) by rw [et, List.map_append]; rfl] at F6
    refine ⟨_, _, _, _, rfl, F6, N6, nd6, _, _, _, b9, some (.int p.1 p.2), rfl, ?_, ?_⟩
    · funext y
      by_cases h1 : y = Str.ofString "copies"
      · subst h1; simp [show ¬ (Str.ofString "copies" = Str.ofString "ready") by decide]
      · by_cases h2 : y = Str.ofString "g"
        · subst h2; simp [show ¬ (Str.ofString "g" = Str.ofString "ready") by decide, show ¬ (Str.ofString "g" = Str.ofString "copies") by decide]
        · simp [h1, h2]
    · rw [List.map_append, htk', et]; simp [hq1]
  · rintro h tk1 m' nw ⟨gn', tn', tk', ct'', ug, rfl, rfl, htk'⟩ F2 N2 nd2
    have hsz : rd.take (ivals rd).toArray.size = rd := List.take_of_length_le (by simp)
    rw [hsz] at N2 nd2 F2 htk'
    exact hK _ _ _ _ _ tk' ug htk' F2 N2 nd2

end
section
theorem reset_ME : True := by
  w_top off
  trivial
structure NA (n : Nat) (pd : Int → List Int) (f : Int → Int) (nodes : List Nd) : Prop where
  keys : ∀ k, rng n k ↔ ∃ (j : Nat) (d : Nd), nodes[j]? = some d ∧ d.key = k
  sc : ∀ d ∈ nodes, d.succ.map (·.1) = scOf n pd d.key
  np : ∀ d ∈ nodes, d.np = f d.key
  len : nodes.length ≤ 100
  sl : ∀ d ∈ nodes, d.succ.length ≤ 100
theorem NA.next {n : Nat} {pd : Int → List Int} {f f' : Int → Int} {e : Nd → Int} {l l' : List Nd} (h : NA n pd f l) (h2 : NpAre e l l') (he : ∀ d ∈ l, e d = f' d.key) : NA n pd f' l' := by
  have bk : ∀ d' ∈ l', ∃ d ∈ l, d'.key = d.key ∧ d'.succ = d.succ ∧ d'.np = e d := fun d' hd' => by
    obtain ⟨j, hj⟩ := List.getElem?_of_mem hd'
    obtain ⟨d, hd, e⟩ := h2.back hj
    exact ⟨d, List.mem_of_getElem? hd, by rw [e], by rw [e], by rw [e]⟩
  refine ⟨fun k => ?_, fun d' hd' => ?_, fun d' hd' => ?_, by rw [h2.1]; exact h.len, fun d' hd' => ?_⟩
  · rw [h.keys]
    constructor
    · rintro ⟨j, d, hj, rfl⟩
      obtain ⟨d', hd', _, hk, _⟩ := h2.at hj
      exact ⟨j, d', hd', hk⟩
    · rintro ⟨j, d', hj, rfl⟩
      obtain ⟨d, hd, e⟩ := h2.back hj
      exact ⟨j, d, hd, by rw [e]⟩
  · obtain ⟨d, hd, h1, h2, _⟩ := bk d' hd'
    rw [h1, h2]; exact h.sc d hd
  · obtain ⟨d, hd, h1, _, h3⟩ := bk d' hd'
    rw [h1, h3]; exact he d hd
  · obtain ⟨d, hd, _, h2, _⟩ := bk d' hd'
    rw [h2]; exact h.sl d hd
theorem kvsNp {e : Nd → Int} {l l' : List Nd} (h2 : NpAre e l l') : kvsOf l' = kvsOf l := h2.map _ fun _ _ _ => rfl
theorem NA.rngk {n : Nat} {pd : Int → List Int} {f : Int → Int} {l : List Nd} (h : NA n pd f l) {d : Nd} (hd : d ∈ l) : rng n d.key := by
  obtain ⟨j, hj⟩ := List.getElem?_of_mem hd
  exact (h.keys _).mpr ⟨j, d, hj, rfl⟩
theorem lawDone {w : World} {A : Around} {s : Shared} {g : Heap} {L fa : Addr} {cd : Value} {name qual : Str} {params : Arguments} {body lb els rest6 : List Stmt} {t6 i6 : PySem.Expr} {p6 : Pos} {scope : Scope} {dV kV doc pm cdv ct oc : Value} {an od : Option Addr} {osl : Array (Option Value)} {Q : Flow → Shared → Prop} {E : Value → Shared → Prop}
    {m : Str → Option Value} {x dx D R T : Addr} {d : SD} {np nf : Int} {oD : Obj} {rd : List (Int × Nat)} {nodes : List Nd} {rn n : Nat} {NW : List (Addr × Obj)} {Gs : List Int} {pd : Int → List Int}
    (ho : (hd.heap_39 w.params).lookup 207 = some ⟨oc, od, .func (fnOf name qual params body scope dV kV doc pm an cdv ct), osl⟩) (hb : body.drop 6 = Stmt.For t6 i6 lb els p6 :: rest6)
    (hA : A.frames = some []) (hroom : A.depth < 410) (hu : A.units < 10) (hh : A.handled = none) (B : Bs w g)
    (F : Fr g L s.heap fun y => if y = Str.ofString "ready" then some (.ref T) else if y = Str.ofString "sorter" then some (.ref x) else m y)
    (N : News g L s.heap ((x, sobj dx) :: (dx, sdict d (.ref D) (.ref R) np nf) :: (D, oD) :: (R, listOf #[] rn) :: (famOf nodes ++ NW)))
    (nd : Nod ((x, sobj dx) :: (dx, sdict d (.ref D) (.ref R) np nf) :: (D, oD) :: (R, listOf #[] rn) :: (famOf nodes ++ NW)))
    (mTu : (T, tupObj (ivals rd)) ∈ NW) (hn : n ≤ 5) (hlo : (D == sysModules) = false) (hD : oD.IsDictOf (intKind Challenge.pw_ij0208_01 w) (kvsOf nodes))
    (K : Kahn n pd Gs (rd.map (·.1))) (hpd : ∀ g p, p ∈ pd g → p ≠ g) (HN : NA n pd (foK pd Gs (rd.map (·.1))) nodes)
    (hK : ∀ h' t' d' n' nodes' rd', NA n pd (fK pd (Gs ++ rd.map (·.1))) nodes' → Kahn n pd (Gs ++ rd.map (·.1)) (rd'.map (·.1)) → oD.IsDictOf (intKind Challenge.pw_ij0208_01 w) (kvsOf nodes') →
      Fr g L h' (fun y => if y = Str.ofString "ready" then some (.ref T) else if y = Str.ofString "sorter" then some (.ref x) else m y) →
      News g L h' ((x, sobj dx) :: (dx, sdict d' (.ref D) (.ref R) np (nf + rd.length)) :: (D, oD) :: (R, listOf (ivals rd').toArray n') :: (famOf nodes' ++ NW)) →
      Nod ((x, sobj dx) :: (dx, sdict d' (.ref D) (.ref R) np (nf + rd.length)) :: (D, oD) :: (R, listOf (ivals rd').toArray n') :: (famOf nodes' ++ NW)) → Q .next { s with heap := h', toks := t' }) :
    wpAny (model Challenge.pw_ij0208_01 w) (A.deeper (envOfC qual scope L fa cd)) (execs (lb.drop 7) (envOfC qual scope L fa cd)) Q E s := by
  have e := ho.symm.trans (rfl : (hd.heap_39 w.params).lookup 207 = some _)
  cases e
  clear ho
  cases hb
  dsimp only [List.drop] at hK ⊢
  have hrl : rd.length ≤ n := by
    have h1 := nod_le (l := rd.map (·.1)) (keys := (List.range n).map fun (k : Nat) => (k : Int)) K.nodR fun k hk => List.mem_map.mpr ⟨k.toNat, List.mem_range.mpr (by have := ((K.memR k).mp hk).1; unfold rng at this; omega), by have := ((K.memR k).mp hk).1; unfold rng at this; omega⟩
    simpa using h1
  obtain ⟨k1, k2, k3⟩ := K.steps hpd (rd.map (·.1)).length (Nat.le_refl _)
  rw [List.take_length] at k1 k2 k3
  walk_at "WALKS"
  refine methodStar ?_
  w_on
  walk1
  refine gaBound (f := 164) F B N nd (InstAt.mk1 (N _ (.head _)).1 (N _ (.tail _ (.head _))).1) (by kernel_rfl) (by kernel_rfl) (by kernel_rfl) (by kernel_rfl) (by kernel_rfl) (by kernel_rfl) (by decide +kernel) (by rfl) ?_
  intro q h2 F2 N2 nd2
  refine cwMS (w := w) (self := .ref x) (f := 164) (by kernel_rfl) ?_
  w_on
  walk1
  refine star_seq F2 N2 (.tail _ (.tail _ (.tail _ (.tail _ (.tail _ (List.mem_append_right _ mTu)))))) rfl rfl (.inr rfl) (ws := ivals rd) rfl (by rw [sizeLine_eq]; simp; omega) ?_
  intro h3 F3 N3
  refine ⟨⟨(N3 _ (.head _)).1, (B.keeps F3.keep).X⟩, ?_⟩
  refine call_meth N3 (.head _) ?_
  obtain ⟨WS, hWS⟩ : ∃ WS, WS = (x, sobj dx) :: (dx, sdict d (.ref D) (.ref R) np nf) :: (D, oD) :: (R, listOf (ivals []).toArray rn) :: famOf nodes := ⟨_, rfl⟩
  have N4 : News g L h3 (WS ++ ((q, methodObj (.ref 164) (.ref x)) :: NW)) := by
    rw [hWS]
    refine newsPerm N3 ?_
    exact List.perm_middle
  have nd4 : Nod (WS ++ ((q, methodObj (.ref 164) (.ref x)) :: NW)) := by
    rw [hWS]
    refine nodPerm nd2 ?_
    exact List.perm_middle
  have hkn : ∀ p ∈ rd, ∃ (j : Nat) (d : Nd), nodes[j]? = some d ∧ d.key = p.1 := fun p hp => (HN.keys _).mp (((K.memR _).mp (List.mem_map_of_mem (f := (·.1)) hp)).1)
  refine doneSpec (f0 := foK pd Gs (rd.map (·.1))) (sc := scOf n pd) (rd := []) (gs := rd) (nodes := nodes) hD hlo (hWS ▸ newsHave (W := WS) N4) (hWS ▸ bsHide (W := WS) F3 B N4) (hWS ▸ nodL (W := WS) nd4)
    HN.np HN.sc hkn (fun d hd q hq => ?_) (fun i p hp => ?_) (by simp) (by omega) HN.sl (by first | exact dD hroom (by decide) | omega) (by first | exact uD hu (by decide) | omega) (by exact hh) ?_
  · have hq' : q.1 ∈ scOf n pd d.key := by rw [← HN.sc d hd]; exact List.mem_map_of_mem (f := (·.1)) hq
    exact (HN.keys _).mp (mem_scOf.mp hq').1
  · have hi : i < (rd.map (·.1)).length := by rw [List.length_map]; exact (List.getElem?_eq_some_iff.mp hp).1
    obtain ⟨s1, _, _⟩ := K.steps hpd i (Nat.le_of_lt hi)
    have hpR : p.1 ∈ rd.map (·.1) := List.mem_map_of_mem (f := (·.1)) (List.mem_of_getElem? hp)
    have hpi : (rd.map (·.1))[i]? = some p.1 := by rw [List.getElem?_map, hp]; rfl
    have hnt : p.1 ∉ (rd.map (·.1)).take i := fun h => by
      obtain ⟨j, hj⟩ := List.getElem?_of_mem h
      have hj' := (List.getElem?_eq_some_iff.mp hj).1
      rw [List.length_take] at hj'
      rw [List.getElem?_take_of_lt (by omega)] at hj
      have := nodup_inj K.nodR hj hpi
      omega
    have := s1 p.1 ((K.memR _).mp hpR).1
    rw [if_neg hnt, if_pos hpR] at this
    rw [List.map_take]; exact this
  · intro d' n' nodes' rd' h5 t5 hnp hrd O
    obtain ⟨F5, N5, nd5⟩ := back (W := WS) F3 N4 nd4 (hWS ▸ O)
    replace N5 : News g L h5 ((x, sobj dx) :: (dx, sdict d' (.ref D) (.ref R) np (nf + rd.length)) :: (D, oD) :: (R, listOf (ivals rd').toArray n') :: (famOf nodes' ++ ((q, methodObj (.ref 164) (.ref x)) :: NW))) := N5
    replace nd5 : Nod ((x, sobj dx) :: (dx, sdict d' (.ref D) (.ref R) np (nf + rd.length)) :: (D, oD) :: (R, listOf (ivals rd').toArray n') :: (famOf nodes' ++ ((q, methodObj (.ref 164) (.ref x)) :: NW))) := nd5
    have sl : ((x, sobj dx) :: (dx, sdict d' (.ref D) (.ref R) np (nf + rd.length)) :: (D, oD) :: (R, listOf (ivals rd').toArray n') :: (famOf nodes' ++ NW)).Sublist ((x, sobj dx) :: (dx, sdict d' (.ref D) (.ref R) np (nf + rd.length)) :: (D, oD) :: (R, listOf (ivals rd').toArray n') :: (famOf nodes' ++ ((q, methodObj (.ref 164) (.ref x)) :: NW))) :=
      .cons_cons _ (.cons_cons _ (.cons_cons _ (.cons_cons _ (List.Sublist.append_left (.cons _ (.refl _)) _))))
    walk_at "WALKS"
    refine hK _ _ d' n' nodes' rd' (HN.next hnp fun d hd => ?_) (by rw [hrd]; exact K.next hpd) (by rw [kvsNp hnp]; exact hD) F5 (newsSub N5 fun q hq => sl.subset hq) (nodSub nd5 sl)
    have := k1 d.key (HN.rngk hd)
    refine this.trans ?_
    unfold fK
    by_cases h1 : d.key ∈ rd.map (·.1)
    · rw [if_pos h1, if_pos (List.mem_append_right _ h1)]
    · rw [if_neg h1, if_neg h1]

end
section
theorem VN_mem {l : List AN} (hn : (l.map (·.1)).Nodup) {t : AN} (h : t ∈ l) : VN l t.1 = t.2 := by
  induction l with
  | nil => cases h
  | cons a l ih =>
    have hn' := List.nodup_cons.mp hn
    rw [VN_cons]
    rcases List.mem_cons.mp h with rfl | h
    · rw [if_pos rfl]
    · rw [if_neg, ih hn'.2 h]
      intro e; exact hn'.1 (by show a.1 ∈ _; rw [e]; exact List.mem_map_of_mem (f := (·.1)) h)
section
variable {n : Nat} {pd : Int → List Int} {nodes : List Nd}
theorem sorted_at (h : nodes.map absN = sorterOf pd n) {d : Nd} (hd : d ∈ nodes) : d.np = (if 0 ≤ d.key ∧ d.key < n then ((pd d.key).length : Int) else 0) ∧ d.succ.map (·.1) = scOf n pd d.key := by
  obtain ⟨a, b, c⟩ := sorter_all pd n
  have hm : absN d ∈ sorterOf pd n := by rw [← h]; exact List.mem_map_of_mem hd
  have e := VN_mem a hm
  rw [c] at e
  exact ⟨(congrArg Prod.fst e).symm, (congrArg Prod.snd e).symm⟩
theorem sorted_keys (h : nodes.map absN = sorterOf pd n) : nodes.map Nd.key = (sorterOf pd n).map (·.1) := by
  rw [← h, List.map_map]; rfl
theorem naOf (hp : ∀ g, rng n g → ∀ p ∈ pd g, rng n p) (h : nodes.map absN = sorterOf pd n) (hl : nodes.length ≤ 100) (hs : ∀ d ∈ nodes, d.succ.length ≤ 100) : NA n pd (fK pd []) nodes := by
  obtain ⟨a, b, c⟩ := sorter_all pd n
  have key : ∀ k, rng n k ↔ ∃ (j : Nat) (d : Nd), nodes[j]? = some d ∧ d.key = k := fun k => by
    have : (∃ (j : Nat) (d : Nd), nodes[j]? = some d ∧ d.key = k) ↔ k ∈ nodes.map Nd.key := by
      rw [List.mem_map]
      constructor
      · rintro ⟨j, d, hj, e⟩; exact ⟨d, List.mem_of_getElem? hj, e⟩
      · rintro ⟨d, hd, e⟩; obtain ⟨j, hj⟩ := List.getElem?_of_mem hd; exact ⟨j, d, hj, e⟩
    rw [this, sorted_keys h, b]
    constructor
    · intro hk; exact ⟨k.toNat, by unfold rng at hk; omega, .inl (by unfold rng at hk; omega)⟩
    · rintro ⟨g, hg, rfl | hk⟩
      · unfold rng; omega
      · exact hp g (by unfold rng; omega) k hk
  refine ⟨key, fun d hd => (sorted_at h hd).2, fun d hd => ?_, hl, hs⟩
  obtain ⟨j, hj⟩ := List.getElem?_of_mem hd
  have hr : rng n d.key := (key _).mpr ⟨j, d, hj, rfl⟩
  rw [(sorted_at h hd).1, if_pos (show 0 ≤ d.key ∧ d.key < n from hr)]
  unfold fK remOf
  rw [if_neg (by simp), List.filter_eq_self.mpr (by simp)]
theorem NA.key0 {f : Int → Int} (h : NA n pd f nodes) {k : Int} : rng n k ↔ ∃ d ∈ nodes, d.key = k := by
  rw [h.keys]
  constructor
  · rintro ⟨j, d, hj, e⟩; exact ⟨d, List.mem_of_getElem? hj, e⟩
  · rintro ⟨d, hd, e⟩; obtain ⟨j, hj⟩ := List.getElem?_of_mem hd; exact ⟨j, d, hj, e⟩
theorem kahn0 (h : nodes.map absN = sorterOf pd n) (HN : NA n pd (fK pd []) nodes) : Kahn n pd [] ((nodes.filter fun d => d.np = 0).map Nd.key) := by
  obtain ⟨a, b, c⟩ := sorter_all pd n
  have hnod : (nodes.map Nd.key).Nodup := by rw [sorted_keys h]; exact a
  refine Kahn.mk List.nodup_nil (fun _ h => nomatch h) (fun i g hg => nomatch hg) ?_ fun g => ?_
  · exact ((List.filter_sublist (p := fun d : Nd => decide (d.np = 0)) (l := nodes)).map Nd.key).nodup hnod
  · rw [List.mem_map]
    have e0 : ∀ d ∈ nodes, (d.np = 0 ↔ ∀ p ∈ pd d.key, p ∈ ([] : List Int)) := fun d hd => by
      rw [HN.np d hd]; unfold fK; rw [if_neg (by simp), Int.natCast_eq_zero]; exact rem_zero
    constructor
    · rintro ⟨d, hd, rfl⟩
      obtain ⟨h1, h2⟩ := List.mem_filter.mp hd
      exact ⟨HN.key0.mpr ⟨d, h1, rfl⟩, by simp, (e0 d h1).mp (by simpa using h2)⟩
    · rintro ⟨h1, _, h2⟩
      obtain ⟨d, hd, rfl⟩ := HN.key0.mp h1
      exact ⟨d, List.mem_filter.mpr ⟨hd, by simpa using (e0 d hd).mpr h2⟩, rfl⟩
theorem ring0 {f : Int → Int} {b : Bool} (hp : ∀ g, rng n g → ∀ p ∈ pd g, rng n p) (HN : NA n pd f nodes)
    (h : if b = true then ∃ v, Relation.TransGen (fun a b => b ∈ scOf n pd a) v v else ∃ rank : Int → Nat, ∀ d ∈ nodes, ∀ q ∈ scOf n pd d.key, rank q < rank d.key) :
    if b = true then ∃ v, Relation.TransGen (fun a b => b ∈ scOf n pd a) v v else ∃ rank : Int → Nat, ∀ g, rng n g → ∀ p ∈ pd g, rank g < rank p := by
  cases b with
  | true => exact h
  | false =>
    rw [if_neg (by decide)] at h ⊢
    obtain ⟨rank, hr⟩ := h
    refine ⟨rank, fun g hg p hpg => ?_⟩
    obtain ⟨d, hd, rfl⟩ := HN.key0.mp (hp g hg p hpg)
    exact hr d hd g (mem_scOf.mpr ⟨hg, hpg⟩)
end

end
section
theorem reset_SA : True := by
  w_top off
  trivial
theorem srcBase {prog : Program} {w : World} {A : Around} {E : Value → Shared → Prop} {s : Shared} {g : Heap} {L : Addr} {m : Str → Option Value} {l : Addr} {items : Array Value} {Q : Value → Shared → Prop} (hh : A.handled = none) (F : Fr g L s.heap m) (hl : g.IsList l items)
    (h : ∀ it s₂, Src prog w A g s items.size (fun i v => items[i]? = some v) (fun _ => True) it s₂ → Q it s₂) : wpAny (model prog w) A (pyIter (.ref l)) Q E s := by
  have up : ∀ h' : Heap, (∀ b o, g.get? b = some o → h'.get? b = some o) → h'.IsList l items := fun h' k => by
    obtain ⟨o, e, r⟩ := hl; exact ⟨o, k _ _ e, r⟩
  have hL : s.heap.IsList l items := up _ F.keep
  have hlt : l < s.heap.objs.size := by obtain ⟨o, e, r⟩ := hL; exact Heap.lt_size e
  have hgl : g.get? s.heap.objs.size = none := by
    cases e : g.get? s.heap.objs.size with
    | none => rfl
    | some o => exact absurd (Heap.lt_size (F.keep _ _ e)) (Nat.lt_irrefl _)
  refine wpAny_pyIter_list hL (h _ _ ⟨s.heap.objs.size, _, _, _, rfl, rfl, rfl, Walks.list hh s.heap.objs.size l (Nat.ne_of_lt hlt) items, ?_, ?_, ⟨⟨_, Heap.get?_push_size _ rfl, rfl, rfl⟩, hL.push _⟩, ?_⟩)
  · rintro i h ⟨⟨o, ho, _⟩, _⟩; exact ⟨o, ho⟩
  · rintro i h h' o nw ⟨⟨o', q, r⟩, _⟩ e e' hg hn hS
    rw [e] at q; cases q
    exact ⟨⟨o, e', r⟩, up _ hg⟩
  · intro b hb
    show b < (s.heap.push _).objs.size
    rw [Heap.size_push]
    rcases List.mem_cons.mp hb with rfl | hb
    · exact Nat.lt_succ_self _
    · rw [List.mem_singleton.mp hb]; exact Nat.lt_succ_of_lt hlt
local macro_rules | `(tactic| walk_at "binaryOp Pow int int") => `(tactic| refine Halt.go ?_)
local macro_rules | `(tactic| walk_at "execs cons") => `(tactic| refine Halt.go ?_)
theorem lawSize {w : World} {A : Around} {s : Shared} {g : Heap} {L fa : Addr} {cd : Value} {name qual : Str} {params : Arguments} {body : List Stmt} {scope : Scope} {dV kV doc pm cdv ct oc : Value} {an od : Option Addr} {osl : Array (Option Value)} {Q : Flow → Shared → Prop} {E : Value → Shared → Prop}
    {m : Str → Option Value} {a : Addr} {vs : List Value} {ns : List Int} {oS oR : Obj} {NW : List (Addr × Obj)} {vS vR : Option Value}
    (ho : (hd.heap_39 w.params).lookup 207 = some ⟨oc, od, .func (fnOf name qual params body scope dV kV doc pm an cdv ct), osl⟩)
    (hA : A.frames = some []) (hroom : A.depth < 410) (hu : A.units < 10) (hh : A.handled = none) (B : Bs w g)
    (F : Fr g L s.heap fun y => if y = Str.ofString "script" then some (.ref a) else m y) (hl : g.IsList a vs.toArray) (hI : IntsAre vs ns) (hlen : ns.length ≤ 63)
    (N : News g L s.heap ((L + 2, oR) :: (L + 1, oS) :: NW)) (nd : Nod ((L + 2, oR) :: (L + 1, oS) :: NW)) (cR : oR.data = .cell vR) (cS : oS.data = .cell vS)
    (hK : ∀ (n nt dt : Nat) (dr : Int) oR' oS' h' t', 3 ≤ n → n ≤ 5 → 0 ≤ dr → oR'.data = .cell (some (.int dr dt)) → oS'.data = .cell (some (.int n nt)) →
      Fr g L h' (fun y => if y = Str.ofString "script" then some (.ref a) else m y) → News g L h' ((L + 2, oR') :: (L + 1, oS') :: NW) → Nod ((L + 2, oR') :: (L + 1, oS') :: NW) →
      wpAny (model Challenge.pw_ij0208_01 w) (A.deeper (envOfC qual scope L fa cd)) (execs (body.drop 1) (envOfC qual scope L fa cd)) Q E { s with heap := h', toks := t' }) :
    wpAny (model Challenge.pw_ij0208_01 w) (A.deeper (envOfC qual scope L fa cd)) (execs body (envOfC qual scope L fa cd)) Q E s := by
  have e := ho.symm.trans (rfl : (hd.heap_39 w.params).lookup 207 = some _)
  cases e
  clear ho
  dsimp only [List.drop] at hK ⊢
  obtain ⟨o, ho1, hcl, nv, hda⟩ := hl
  have hl' : s.heap.IsList a vs.toArray := ⟨o, F.keep _ _ ho1, hcl, nv, hda⟩
  have hvl : vs.length ≤ 63 := by rw [hI.length]; exact hlen
  have hz : (slicePick vs.toArray (some 1) (some 3) none).size ≤ 2 := by
    have := (kmk_run hI (x := 1) (y := 3) (by decide) (by decide)).length
    rw [Array.length_toList] at this
    rw [this, List.length_take]
    exact Nat.le_trans (Nat.min_le_left _ _) (by rw [show (3 : Int).toNat = 3 from rfl, show (1 : Int).toNat = 1 from rfl]; omega)
  refine wpAny_execs_cons ?_
  walk_at "WALKS"
  rename Fr _ _ _ _ => F1
  rename News _ _ _ _ => N1
  refine Halt.go ?_
  rw [eval_ListComp]
  refine compU (use := none) F1 (by rfl) (by decide) rfl (by decide) (by decide) ?_
  walk_at "WALKS"
  refine Halt.go ?_
  refine srcBase hh F1 ⟨o, ho1, hcl, nv, hda⟩ fun it s₂ src => ?_
  refine ⟨_, _, _, _, _, fun i ys nw => nw = (L + 2, oR) :: (L + 1, oS) :: NW ∧ ∃ ms, IntsAre ys ms ∧ (∀ k ∈ ms, 0 ≤ k) ∧ ys.length ≤ i,
    src, by rw [sizeLine_eq]; simp; omega, F1, newsSub N1 (fun q hq => .tail _ hq), nd, ⟨rfl, [], .nil, (by simp), Nat.le_refl _⟩, fun _ _ _ _ => trivial, ?_, finEval fun D2 h2 tk2 ys nw hJ F2 N2 nd2 => ?_⟩
  · rintro i v ys nw I2 oI2 C oC D2 m₂ h3 tk3 E' hP ⟨rfl, ms, hms, hm0, hml⟩ hC hv F5 N5 nd5
    obtain ⟨k, t, rfl⟩ : ∃ k t, v = .int k t := by
      have hv9 : v ∈ vs := List.mem_toArray.mp (Array.mem_of_getElem? hP)
      have : ∀ {vs : List Value} {ns : List Int}, IntsAre vs ns → ∀ v ∈ vs, ∃ k t, v = .int k t := by
        intro vs ns h
        induction h with
        | nil => intro v h; cases h
        | cons k t _ ih =>
          intro v hv
          rcases List.mem_cons.mp hv with rfl | hv
          · exact ⟨_, _, rfl⟩
          · exact ih v hv
      exact this hI v hv9
    walk_at "WALKS"
    refine Halt.go ?_
    refine pow_int_small (by decide) (by decide) (by decide) ?_
    walk_at "WALKS"

    refine ⟨_, _, _, rfl, F5, N5, nd5, rfl, _, ksk_snoc hms, fun q hq => ?_, by simp; omega⟩
    rcases List.mem_append.mp hq with hq | hq
    · exact hm0 q hq
    · rw [List.mem_singleton.mp hq]; exact Int.fmod_nonneg_of_pos _ (by decide +kernel)
  obtain ⟨rfl, ms, hms, hm0, hml⟩ := hJ
  w_on
  walk1
  refine LSm.sum_ints F2 N2 hh ⟨_, (N2 _ (.head _)).1, rfl, _, rfl⟩ hms fun h3 tk3 t3 F3 N3 => ?_
  have hs0 : 0 ≤ ms.sum := by
    clear hms
    induction ms with
    | nil => exact Int.le_refl _
    | cons a r ih => rw [List.sum_cons]; have := hm0 a (.head _); have := ih fun k hk => hm0 k (.tail _ hk); omega
  walk_at "WALKS"
  rename Fr _ _ _ _ => F4
  rename News _ _ _ _ => N4
  rename Nod _ => nd4
  rename_i oS' _ _ _ c1 _ oR' c2
  refine hK (3 + (slicePick vs.toArray (some 1) (some 3) none).size) _ _ ms.sum oR' oS' _ _ (by omega) (by omega) hs0 c2 c1 F4 (newsSub N4 fun q hq => .tail _ (.tail _ hq)) (nodSub nd4 (.cons _ (.cons _ (.refl _))))

end
section
local macro_rules | `(tactic| walk_at "no goal 0") => `(tactic| fail)
local macro_rules | `(tactic| walk_at "no goal 1") => `(tactic| fail)
local macro_rules | `(tactic| walk_at "no goal 2") => `(tactic| fail)
theorem reset_MF : True := by
  w_top off
  trivial
inductive MJ (w : World) (n : Nat) (ls : Int → List Nat) (ow : Nat → Int) (rm : Int → Nat) (L x dx D R Gv Tk : Addr) (rb : Bool) (ST : List (Addr × Obj)) (m : Str → Option Value) (nw : List (Addr × Obj)) : Prop
  | mk (gs rd : List (Int × Nat)) (tk : List (Nat × Nat)) (gn tn ct rn : Nat) (nv : Int) (d : SD) (nodes : List Nd) (oF oD : Obj) (vF : Option Value) (a0 : nw = (L + 7, oF) :: (Gv, listOf (ivals gs).toArray gn) :: (Tk, listOf (lvals tk).toArray tn) :: (x, sobj dx) :: (dx, sdict d (.ref D) (.ref R) nv nv) :: (D, oD) :: (R, listOf (ivals rd).toArray rn) :: (famOf nodes ++ ST)) (a1 : oF.data = .cell vF) (a2 : m (Str.ofString "sorter") = some (.ref x)) (a3 : m (Str.ofString "ring") = some (.bool rb)) (a4 : m (Str.ofString "copies") = some (.int (copiesOf ls rm (gs.map (·.1)) : Nat) ct)) (a5 : tk.map (·.1) = (gs.map (·.1)).map rm) (a6 : Kahn n (pdOf ls ow) (gs.map (·.1)) (rd.map (·.1))) (a7 : NA n (pdOf ls ow) (fK (pdOf ls ow) (gs.map (·.1))) nodes) (a8 : oD.IsDictOf (intKind Challenge.pw_ij0208_01 w) (kvsOf nodes)) : MJ w n ls ow rm L x dx D R Gv Tk rb ST m nw
theorem lawMain {w : World} {A : Around} {s : Shared} {g : Heap} {L fa : Addr} {cd : Value} {name qual : Str} {params : Arguments} {body lb els rest6 : List Stmt} {t6 i6 : PySem.Expr} {p6 : Pos} {scope : Scope} {dV kV doc pm cdv ct oc : Value} {an od : Option Addr} {osl : Array (Option Value)} {Q : Flow → Shared → Prop} {E : Value → Shared → Prop}
    {m : Str → Option Value} {x dx D R Gv Tk Ls : Addr} {oW oT oG oLs oS : Obj} {nw S0 : List (Addr × Obj)} {rows : List Rw} {ln n nt : Nat} {vW : Option Value} {rb : Bool} {dr : Int}
    (ho : (hd.heap_39 w.params).lookup 207 = some ⟨oc, od, .func (fnOf name qual params body scope dV kV doc pm an cdv ct), osl⟩) (hb : body.drop 6 = Stmt.For t6 i6 lb els p6 :: rest6)
    (hE : PassesOwn (model Challenge.pw_ij0208_01 w) (A.deeper (envOfC qual scope L fa cd)) (envOfC qual scope L fa cd) E)
    (hA : A.frames = some []) (hroom : A.depth < 410) (hu : A.units < 10) (hh : A.handled = none) (B : Bs w g)
    (F : Fr g L s.heap m) (N : News g L s.heap nw) (nd : Nod nw) (hJ : MJ w n (lsOf dr n) (owOf dr n) (rmOf dr n) L x dx D R Gv Tk rb ((L + 8, oW) :: S0) m nw)
    (mT : (L + 6, oT) ∈ S0) (mG : (L + 5, oG) ∈ S0) (mLs : (L + 3, oLs) ∈ S0) (mS : (L + 1, oS) ∈ S0) (mL : (Ls, listOf (rwRefs rows).toArray ln) ∈ S0) (mR : ∀ r ∈ rows, (r.a, listOf (lvals r.ps).toArray r.n) ∈ S0)
    (cW : oW.data = .cell vW) (cT : oT.data = .cell (some (.ref Tk))) (cG : oG.data = .cell (some (.ref Gv))) (cLs : oLs.data = .cell (some (.ref Ls))) (cS : oS.data = .cell (some (.int n nt)))
    (hn : n ≤ 5) (hn0 : 0 < n) (hrl : rows.length = n) (hrows : ∀ g row, rows[g]? = some row → row.ps.map (·.1) = rowIx dr n g) (hl10 : ∀ r ∈ rows, r.ps.length ≤ 10) (hDm : (D == sysModules) = false)
    (H : Hous n (lsOf dr n) (owOf dr n) (rmOf dr n))
    (hring : if rb = true then ∃ v, Relation.TransGen (fun a b => b ∈ scOf n (pdOf (lsOf dr n) (owOf dr n)) a) v v else ∃ rank : Int → Nat, ∀ g, rng n g → ∀ p ∈ pdOf (lsOf dr n) (owOf dr n) g, rank g < rank p)
    (hQ : ∀ h' t', (∀ b o, g.get? b = some o → h'.get? b = some o) → Q (.ret (.bool true)) { s with heap := h', toks := t' }) :
    wpAny (model Challenge.pw_ij0208_01 w) (A.deeper (envOfC qual scope L fa cd)) (execs (body.drop 6) (envOfC qual scope L fa cd)) Q E s := by
  have tail : ∀ {m1 : Str → Option Value} {h1 : Heap} {t1 gn tn ct1 : Nat} {gs : List (Int × Nat)} {tk : List (Nat × Nat)} {R1 : List Int} {NT : List (Addr × Obj)}, Fr g L h1 m1 → News g L h1 ((L + 8, oW) :: NT) → Nod ((L + 8, oW) :: NT) → (∀ p ∈ S0, p ∈ NT) → (Gv, listOf (ivals gs).toArray gn) ∈ NT → (Tk, listOf (lvals tk).toArray tn) ∈ NT →
      m1 (Str.ofString "ring") = some (.bool rb) → m1 (Str.ofString "copies") = some (.int (copiesOf (lsOf dr n) (rmOf dr n) (gs.map (·.1)) : Nat) ct1) → tk.map (·.1) = (gs.map (·.1)).map (rmOf dr n) → Kahn n (pdOf (lsOf dr n) (owOf dr n)) (gs.map (·.1)) R1 →
      wpAny (model Challenge.pw_ij0208_01 w) (A.deeper (envOfC qual scope L fa cd)) (execs (body.drop 7) (envOfC qual scope L fa cd)) Q E { s with heap := h1, toks := t1 } := by
    intro m1 h1 t1 gn tn ct1 gs tk R1 NT F1 N1 nd1 hS mGv mTk hmr hmc htk K
    exact lawTail (x := x) ho hA hroom hu hh B (frTail F1 hmr hmc) N1 nd1 (hS _ mT) (hS _ mG) (hS _ mLs) (hS _ mS) mGv mTk (hS _ mL) (fun r hr => hS _ (mR r hr)) cW cT cG cLs cS hn hn0 hrl hrows rfl htk K rfl hring hQ
  have e := ho.symm.trans (rfl : (hd.heap_39 w.params).lookup 207 = some _)
  cases e
  clear ho
  cases hb
  dsimp only [List.drop] at tail ⊢
  have mS1 := mS
  w_on
  walk1
  refine Halt.go ?_
  refine forJ F (hE := hE) ?_
  obtain ⟨gs, rd, tk, gn, tn, ct1, rn, nv, d, nodes, oF, oD, vF, rfl, cF, hms, hmr, hmc, htk, K, HN, hD⟩ := hJ
  have mS2 : (L + 1, oS) ∈ famOf nodes ++ (L + 8, oW) :: S0 := List.mem_append_right _ (.tail _ mS)
  walk_at "WALKS"
  rename IsRange _ _ _ _ _ _ _ _ => R1
  rename Fr _ _ _ _ => F1
  rename News _ _ _ _ => N1
  rename Nod _ => nd1
  refine Halt.go ?_
  refine srcN (n := n + 1) (g := g) hh (show IsRange _ _ 0 ((n + 1 : Nat) : Int) 1 _ _ _ from R1) (by omega) fun it s₂ src => ?_
  refine ⟨_, _, _, _, _, _, fun i m' nw => MJ w n (lsOf dr n) (owOf dr n) (rmOf dr n) L x dx D R Gv Tk rb ((L + 8, oW) :: S0) m' nw,
    src, F1, N1, nd1, ⟨gs, rd, tk, gn, tn, ct1, rn, nv, d, nodes, oF, oD, vF, rfl, cF, hms, hmr, hmc, htk, K, HN, hD⟩, fun _ _ _ _ => trivial, ?_, ?_⟩
  · clear hms hmr hmc htk K HN hD src cF mS2
    rintro i v m₁ nw I oI h tk1 hI hP ⟨gs, rd, tk, gn, tn, ct1, rn, nv, d, nodes, oF, oD, vF, rfl, cF, hms, hmr, hmc, htk, K, HN, hD⟩ F2 N2 nd2
    w_on
    walk1
    rename Fr _ _ _ _ => F3
    rename News _ _ _ _ => N3
    obtain ⟨ma, hma⟩ : ∃ ma, ma = fun y => if y = Str.ofString "step" then some v else m₁ y := ⟨_, rfl⟩
    have hac : ma (Str.ofString "copies") = some (.int (copiesOf (lsOf dr n) (rmOf dr n) (gs.map (·.1)) : Nat) ct1) := by rw [hma]; exact hmc
    have har : ma (Str.ofString "ring") = some (.bool rb) := by rw [hma]; exact hmr
    have hams : ma (Str.ofString "sorter") = some (.ref x) := by rw [hma]; exact hms
    rw [← hma] at F3
    clear hma hmr hmc hms
    have F4 := frPin1 F3 hams
    have pm1 : ((L + 7, oF) :: ((I, oI) :: (Gv, listOf (ivals gs).toArray gn) :: (Tk, listOf (lvals tk).toArray tn) :: (x, sobj dx) :: (dx, sdict d (.ref D) (.ref R) nv nv) :: (D, oD) :: (R, listOf (ivals rd).toArray rn) :: (famOf nodes ++ (L + 8, oW) :: S0))).Perm
        ((I, oI) :: (L + 7, oF) :: (Gv, listOf (ivals gs).toArray gn) :: (Tk, listOf (lvals tk).toArray tn) :: (x, sobj dx) :: (dx, sdict d (.ref D) (.ref R) nv nv) :: (D, oD) :: (R, listOf (ivals rd).toArray rn) :: (famOf nodes ++ (L + 8, oW) :: S0)) := .swap _ _ _
    refine lawLeft (rfl : (hd.heap_39 w.params).lookup 207 = some _) rfl hA hroom hu hh B F4 (newsPerm N3 pm1) (nodPerm nd2 pm1) (oT := oT) (oG := oG) (oLs := oLs) (oS := oS) (gn := gn) (tn := tn) (ln := ln) (by walk_at "MM") (by walk_at "MM") (by walk_at "MM") (by walk_at "MM") (by walk_at "MM") (by walk_at "MM") (by walk_at "MM") (fun r hr => by have := mR r hr; walk_at "MM") cF cT cG cLs cS hn hrl hrows hl10 rfl htk ?_
    clear pm1
    intro Lf oLf oF' fs h2 t2 hfk hfs hDf hlo cF2 F5 N5 nd5
    refine lawDue (rfl : (hd.heap_39 w.params).lookup 207 = some _) rfl hA hroom hu hh B F5 N5 nd5 hlo hDf cF2 (fun p hp => List.mem_append_right _ (rowObjs_mem (List.mem_map_of_mem (f := (·.2)) hp))) hn hfk hfs H K.rngG ?_
    intro Du ds dn h3 t3 hds F6 N6 nd6
    obtain ⟨RO, hRO⟩ : ∃ RO, RO = rowObjs (lfRows fs) := ⟨_, rfl⟩
    have hmf : ∀ p ∈ fs, (p.2.a, listOf (lvals p.2.ps).toArray p.2.n) ∈ RO := fun p hp => hRO ▸ rowObjs_mem (List.mem_map_of_mem (f := (·.2)) hp)
    rw [← hRO] at N5 nd5 N6 nd6
    clear N5 nd5 F5 F4 N3 nd2 F3
    have pm2 : ((x, sobj dx) :: (dx, sdict d (.ref D) (.ref R) nv nv) :: (D, oD) :: (R, listOf (ivals rd).toArray rn) :: (famOf nodes ++ ((Du, listOf (ivals ds).toArray dn) :: (Lf, oLf) :: (L + 7, oF') :: (I, oI) :: (Gv, listOf (ivals gs).toArray gn) :: (Tk, listOf (lvals tk).toArray tn) :: (L + 8, oW) :: (S0 ++ RO)))).Perm
        ((Du, listOf (ivals ds).toArray dn) :: (Lf, oLf) :: (L + 7, oF') :: (((I, oI) :: (Gv, listOf (ivals gs).toArray gn) :: (Tk, listOf (lvals tk).toArray tn) :: (x, sobj dx) :: (dx, sdict d (.ref D) (.ref R) nv nv) :: (D, oD) :: (R, listOf (ivals rd).toArray rn) :: (famOf nodes ++ (L + 8, oW) :: S0)) ++ RO)) := by first | exact segsPerm [[(Du, listOf (ivals ds).toArray dn)], [(Lf, oLf)], [(L + 7, oF')], [(I, oI)], [(Gv, listOf (ivals gs).toArray gn)], [(Tk, listOf (lvals tk).toArray tn)], [(x, sobj dx)], [(dx, sdict d (.ref D) (.ref R) nv nv)], [(D, oD)], [(R, listOf (ivals rd).toArray rn)], famOf nodes, [(L + 8, oW)], S0, RO] [6, 7, 8, 9, 10, 0, 1, 2, 3, 4, 5, 11, 12, 13] 14 rfl (by decide) | (simp only [List.cons_append, List.append_assoc]; exact segsPerm [[(Du, listOf (ivals ds).toArray dn)], [(Lf, oLf)], [(L + 7, oF')], [(I, oI)], [(Gv, listOf (ivals gs).toArray gn)], [(Tk, listOf (lvals tk).toArray tn)], [(x, sobj dx)], [(dx, sdict d (.ref D) (.ref R) nv nv)], [(D, oD)], [(R, listOf (ivals rd).toArray rn)], famOf nodes, [(L + 8, oW)], S0, RO] [6, 7, 8, 9, 10, 0, 1, 2, 3, 4, 5, 11, 12, 13] 14 rfl (by decide))
    have hkn : ∀ p ∈ rd, ∃ (j : Nat) (d : Nd), nodes[j]? = some d ∧ d.key = p.1 := fun p hp => (HN.keys _).mp (((K.memR _).mp (List.mem_map_of_mem (f := (·.1)) hp)).1)
    refine lawCheck (rfl : (hd.heap_39 w.params).lookup 207 = some _) rfl hA hroom hu hh B F6 (newsPerm N6 pm2) (nodPerm nd6 pm2) (.head _) hn hD hkn K hds ?_ ?_
    · intro h4 t4 T d' n' vA nodes' hr0 F7 N7 nd7
      have pm3 : ((L + 8, oW) :: ((T, tupObj (ivals rd)) :: (x, sobj dx) :: (dx, sdict d' (.ref D) (.ref R) (nv + rd.length) nv) :: (D, oD) :: (R, listOf #[] n') :: (famOf nodes' ++ ((Du, listOf (ivals ds).toArray dn) :: (Lf, oLf) :: (L + 7, oF') :: (I, oI) :: (Gv, listOf (ivals gs).toArray gn) :: (Tk, listOf (lvals tk).toArray tn) :: (S0 ++ RO))))).Perm
        ((T, tupObj (ivals rd)) :: (x, sobj dx) :: (dx, sdict d' (.ref D) (.ref R) (nv + rd.length) nv) :: (D, oD) :: (R, listOf #[] n') :: (famOf nodes' ++ ((Du, listOf (ivals ds).toArray dn) :: (Lf, oLf) :: (L + 7, oF') :: (I, oI) :: (Gv, listOf (ivals gs).toArray gn) :: (Tk, listOf (lvals tk).toArray tn) :: (L + 8, oW) :: (S0 ++ RO)))) := by first | exact segsPerm [[(T, tupObj (ivals rd))], [(x, sobj dx)], [(dx, sdict d' (.ref D) (.ref R) (nv + rd.length) nv)], [(D, oD)], [(R, listOf #[] n')], famOf nodes', [(Du, listOf (ivals ds).toArray dn)], [(Lf, oLf)], [(L + 7, oF')], [(I, oI)], [(Gv, listOf (ivals gs).toArray gn)], [(Tk, listOf (lvals tk).toArray tn)], [(L + 8, oW)], S0, RO] [12, 0, 1, 2, 3, 4, 5, 6, 7, 8, 9, 10, 11, 13, 14] 15 rfl (by decide) | (simp only [List.cons_append, List.append_assoc]; exact segsPerm [[(T, tupObj (ivals rd))], [(x, sobj dx)], [(dx, sdict d' (.ref D) (.ref R) (nv + rd.length) nv)], [(D, oD)], [(R, listOf #[] n')], famOf nodes', [(Du, listOf (ivals ds).toArray dn)], [(Lf, oLf)], [(L + 7, oF')], [(I, oI)], [(Gv, listOf (ivals gs).toArray gn)], [(Tk, listOf (lvals tk).toArray tn)], [(L + 8, oW)], S0, RO] [12, 0, 1, 2, 3, 4, 5, 6, 7, 8, 9, 10, 11, 13, 14] 15 rfl (by decide))
      exact tail F7 (newsPerm N7 pm3) (nodPerm nd7 pm3) (fun p hp => by walk_at "MM") (by walk_at "MM") (by walk_at "MM") (by exact har) (by exact hac) htk K
    · intro h4 t4 T d' n' vA nodes' hnp F7 N7 nd7
      have HN' : NA n (pdOf (lsOf dr n) (owOf dr n)) (foK (pdOf (lsOf dr n) (owOf dr n)) (gs.map (·.1)) (rd.map (·.1))) nodes' := HN.next hnp fun d hd => by
        unfold foK
        by_cases h1 : d.key ∈ rd.map (·.1)
        · rw [if_pos h1, if_pos h1]
        · rw [if_neg h1, if_neg h1, HN.np d hd]
      have hD' := (kvsNp hnp).symm ▸ hD
      have pm4 : ((Gv, listOf (ivals gs).toArray gn) :: (Tk, listOf (lvals tk).toArray tn) :: ((T, tupObj (ivals rd)) :: (x, sobj dx) :: (dx, sdict d' (.ref D) (.ref R) (nv + rd.length) nv) :: (D, oD) :: (R, listOf #[] n') :: (famOf nodes' ++ ((Du, listOf (ivals ds).toArray dn) :: (Lf, oLf) :: (L + 7, oF') :: (I, oI) :: (L + 8, oW) :: (S0 ++ RO))))).Perm
        ((T, tupObj (ivals rd)) :: (x, sobj dx) :: (dx, sdict d' (.ref D) (.ref R) (nv + rd.length) nv) :: (D, oD) :: (R, listOf #[] n') :: (famOf nodes' ++ ((Du, listOf (ivals ds).toArray dn) :: (Lf, oLf) :: (L + 7, oF') :: (I, oI) :: (Gv, listOf (ivals gs).toArray gn) :: (Tk, listOf (lvals tk).toArray tn) :: (L + 8, oW) :: (S0 ++ RO)))) := by first | exact segsPerm [[(T, tupObj (ivals rd))], [(x, sobj dx)], [(dx, sdict d' (.ref D) (.ref R) (nv + rd.length) nv)], [(D, oD)], [(R, listOf #[] n')], famOf nodes', [(Du, listOf (ivals ds).toArray dn)], [(Lf, oLf)], [(L + 7, oF')], [(I, oI)], [(Gv, listOf (ivals gs).toArray gn)], [(Tk, listOf (lvals tk).toArray tn)], [(L + 8, oW)], S0, RO] [10, 11, 0, 1, 2, 3, 4, 5, 6, 7, 8, 9, 12, 13, 14] 15 rfl (by decide) | (simp only [List.cons_append, List.append_assoc]; exact segsPerm [[(T, tupObj (ivals rd))], [(x, sobj dx)], [(dx, sdict d' (.ref D) (.ref R) (nv + rd.length) nv)], [(D, oD)], [(R, listOf #[] n')], famOf nodes', [(Du, listOf (ivals ds).toArray dn)], [(Lf, oLf)], [(L + 7, oF')], [(I, oI)], [(Gv, listOf (ivals gs).toArray gn)], [(Tk, listOf (lvals tk).toArray tn)], [(L + 8, oW)], S0, RO] [10, 11, 0, 1, 2, 3, 4, 5, 6, 7, 8, 9, 12, 13, 14] 15 rfl (by decide))
      refine lawGive (R := []) (rfl : (hd.heap_39 w.params).lookup 207 = some _) rfl hE hA hroom hu hh B (frPin2 (a := Str.ofString "ready") (b := Str.ofString "copies") F7 (by rfl) (by exact hac)) (newsPerm N7 pm4) (nodPerm nd7 pm4) (oT := oT) (oG := oG) (by walk_at "MM") (by walk_at "MM") (by walk_at "MM") (by walk_at "MM") (by walk_at "MM") (fun p hp => by have := hmf p hp; walk_at "MM") cT cG cF2 hDf hn hfk hfs H K rfl htk rfl ?_
      intro h5 t5 gn' tn' ct2 tk' ug htk' F8 N8 nd8
      have pm5 : ((x, sobj dx) :: (dx, sdict d' (.ref D) (.ref R) (nv + rd.length) nv) :: (D, oD) :: (R, listOf #[] n') :: (famOf nodes' ++ ((Gv, listOf (ivals (gs ++ rd)).toArray gn') :: (Tk, listOf (lvals tk').toArray tn') :: (T, tupObj (ivals rd)) :: (Du, listOf (ivals ds).toArray dn) :: (Lf, oLf) :: (L + 7, oF') :: (I, oI) :: (L + 8, oW) :: (S0 ++ RO)))).Perm
        ((Gv, listOf (ivals (gs ++ rd)).toArray gn') :: (Tk, listOf (lvals tk').toArray tn') :: ((T, tupObj (ivals rd)) :: (x, sobj dx) :: (dx, sdict d' (.ref D) (.ref R) (nv + rd.length) nv) :: (D, oD) :: (R, listOf #[] n') :: (famOf nodes' ++ ((Du, listOf (ivals ds).toArray dn) :: (Lf, oLf) :: (L + 7, oF') :: (I, oI) :: (L + 8, oW) :: (S0 ++ RO))))) := by first | exact segsPerm [[(Gv, listOf (ivals (gs ++ rd)).toArray gn')], [(Tk, listOf (lvals tk').toArray tn')], [(T, tupObj (ivals rd))], [(x, sobj dx)], [(dx, sdict d' (.ref D) (.ref R) (nv + rd.length) nv)], [(D, oD)], [(R, listOf #[] n')], famOf nodes', [(Du, listOf (ivals ds).toArray dn)], [(Lf, oLf)], [(L + 7, oF')], [(I, oI)], [(L + 8, oW)], S0, RO] [3, 4, 5, 6, 7, 0, 1, 2, 8, 9, 10, 11, 12, 13, 14] 15 rfl (by decide) | (simp only [List.cons_append, List.append_assoc]; exact segsPerm [[(Gv, listOf (ivals (gs ++ rd)).toArray gn')], [(Tk, listOf (lvals tk').toArray tn')], [(T, tupObj (ivals rd))], [(x, sobj dx)], [(dx, sdict d' (.ref D) (.ref R) (nv + rd.length) nv)], [(D, oD)], [(R, listOf #[] n')], famOf nodes', [(Du, listOf (ivals ds).toArray dn)], [(Lf, oLf)], [(L + 7, oF')], [(I, oI)], [(L + 8, oW)], S0, RO] [3, 4, 5, 6, 7, 0, 1, 2, 8, 9, 10, 11, 12, 13, 14] 15 rfl (by decide))
      refine lawDone (rfl : (hd.heap_39 w.params).lookup 207 = some _) rfl hA hroom hu hh B (frPin2 (a := Str.ofString "ready") (b := Str.ofString "sorter") F8 (by rfl) (by rfl)) (newsPerm N8 pm5) (nodPerm nd8 pm5) (by walk_at "MM") hn hDm hD' K (fun g p => pd_ne g p) HN' ?_
      intro h6 t6 d6 n6 nodes6 rd' HN6 K6 hD6 F9 N9 nd9
      have pm6 : (((I, oI) :: (L + 7, oF') :: (Gv, listOf (ivals (gs ++ rd)).toArray gn') :: (Tk, listOf (lvals tk').toArray tn') :: (x, sobj dx) :: (dx, sdict d6 (.ref D) (.ref R) (nv + rd.length) (nv + rd.length)) :: (D, oD) :: (R, listOf (ivals rd').toArray n6) :: (famOf nodes6 ++ (L + 8, oW) :: S0)) ++ ((T, tupObj (ivals rd)) :: (Du, listOf (ivals ds).toArray dn) :: (Lf, oLf) :: RO)).Perm
        ((x, sobj dx) :: (dx, sdict d6 (.ref D) (.ref R) (nv + rd.length) (nv + rd.length)) :: (D, oD) :: (R, listOf (ivals rd').toArray n6) :: (famOf nodes6 ++ ((Gv, listOf (ivals (gs ++ rd)).toArray gn') :: (Tk, listOf (lvals tk').toArray tn') :: (T, tupObj (ivals rd)) :: (Du, listOf (ivals ds).toArray dn) :: (Lf, oLf) :: (L + 7, oF') :: (I, oI) :: (L + 8, oW) :: (S0 ++ RO)))) := by first | exact segsPerm [[(x, sobj dx)], [(dx, sdict d6 (.ref D) (.ref R) (nv + rd.length) (nv + rd.length))], [(D, oD)], [(R, listOf (ivals rd').toArray n6)], famOf nodes6, [(Gv, listOf (ivals (gs ++ rd)).toArray gn')], [(Tk, listOf (lvals tk').toArray tn')], [(T, tupObj (ivals rd))], [(Du, listOf (ivals ds).toArray dn)], [(Lf, oLf)], [(L + 7, oF')], [(I, oI)], [(L + 8, oW)], S0, RO] [11, 10, 5, 6, 0, 1, 2, 3, 4, 12, 13, 7, 8, 9, 14] 15 rfl (by decide) | (simp only [List.cons_append, List.append_assoc]; exact segsPerm [[(x, sobj dx)], [(dx, sdict d6 (.ref D) (.ref R) (nv + rd.length) (nv + rd.length))], [(D, oD)], [(R, listOf (ivals rd').toArray n6)], famOf nodes6, [(Gv, listOf (ivals (gs ++ rd)).toArray gn')], [(Tk, listOf (lvals tk').toArray tn')], [(T, tupObj (ivals rd))], [(Du, listOf (ivals ds).toArray dn)], [(Lf, oLf)], [(L + 7, oF')], [(I, oI)], [(L + 8, oW)], S0, RO] [11, 10, 5, 6, 0, 1, 2, 3, 4, 12, 13, 7, 8, 9, 14] 15 rfl (by decide))
      refine ⟨h6, t6, _, _, rfl, F9, newsSub (newsPerm N9 pm6) fun q hq => List.mem_append_left _ hq, nodSub (nodPerm nd9 pm6) (List.sublist_append_left _ _), gs ++ rd, rd', tk', gn', tn', ct2, n6, nv + rd.length, d6, nodes6, oF', oD, _, rfl, cF2, by rfl, by exact har, ?_, ?_, ?_, ?_, hD6⟩
      · rw [List.map_append]; rfl
      · rw [List.map_append]; exact htk'
      · rw [List.map_append]; exact K6
      · rw [List.map_append]; exact HN6
  · rintro h tk1 m' nw hJ F2 N2 nd2
    obtain ⟨gs, rd, tk, gn, tn, ct1, rn, nv, d, nodes, oF, oD, vF, rfl, cF, hms, hmr, hmc, htk, K, HN, hD⟩ := hJ
    obtain ⟨PR, hPR⟩ : ∃ PR, PR = (L + 7, oF) :: (Gv, listOf (ivals gs).toArray gn) :: (Tk, listOf (lvals tk).toArray tn) :: (x, sobj dx) :: (dx, sdict d (.ref D) (.ref R) nv nv) :: (D, oD) :: (R, listOf (ivals rd).toArray rn) :: famOf nodes := ⟨_, rfl⟩
    have pm : ((L + 8, oW) :: (PR ++ S0)).Perm (PR ++ (L + 8, oW) :: S0) := List.perm_middle.symm
    have N3 : News g L h (PR ++ (L + 8, oW) :: S0) := by rw [hPR]; exact N2
    have nd3 : Nod (PR ++ (L + 8, oW) :: S0) := by rw [hPR]; exact nd2
    exact tail F2 (newsPerm N3 pm) (nodPerm nd3 pm) (fun p hp => List.mem_append_right _ hp) (List.mem_append_left _ (by rw [hPR]; exact .tail _ (.head _))) (List.mem_append_left _ (by rw [hPR]; exact .tail _ (.tail _ (.head _)))) hmr hmc htk K

end
section
theorem reset_SB : True := by
  w_top off
  trivial
local macro_rules | `(tactic| walk_at "execs cons") => `(tactic| refine Halt.go ?_)
theorem lawRows {w : World} {A : Around} {s : Shared} {g : Heap} {L fa : Addr} {cd : Value} {name qual : Str} {params : Arguments} {body : List Stmt} {scope : Scope} {dV kV doc pm cdv ct oc : Value} {an od : Option Addr} {osl : Array (Option Value)} {Q : Flow → Shared → Prop} {E : Value → Shared → Prop}
    {m : Str → Option Value} {oLs oR oS : Obj} {NW : List (Addr × Obj)} {vL : Option Value} {n nt dt : Nat} {dr : Int}
    (ho : (hd.heap_39 w.params).lookup 207 = some ⟨oc, od, .func (fnOf name qual params body scope dV kV doc pm an cdv ct), osl⟩)
    (hA : A.frames = some []) (hroom : A.depth < 410) (hu : A.units < 10) (hh : A.handled = none) (B : Bs w g)
    (F : Fr g L s.heap m)
    (N : News g L s.heap ((L + 3, oLs) :: NW)) (nd : Nod ((L + 3, oLs) :: NW)) (mR : (L + 2, oR) ∈ NW) (mS : (L + 1, oS) ∈ NW) (cL : oLs.data = .cell vL) (cR : oR.data = .cell (some (.int dr dt))) (cS : oS.data = .cell (some (.int n nt)))
    (hn : n ≤ 5) (hdr : 0 ≤ dr)
    (hK : ∀ Ls rows ln oL' h' t', rows.length = n → (∀ (g : Nat) row, rows[g]? = some row → row.ps.map (·.1) = rowIx dr n g) → oL'.data = .cell (some (.ref Ls)) →
      Fr g L h' m → News g L h' ((L + 3, oL') :: (NW ++ (Ls, listOf (rwRefs rows).toArray ln) :: rowObjs rows)) → Nod ((L + 3, oL') :: (NW ++ (Ls, listOf (rwRefs rows).toArray ln) :: rowObjs rows)) →
      wpAny (model Challenge.pw_ij0208_01 w) (A.deeper (envOfC qual scope L fa cd)) (execs (body.drop 2) (envOfC qual scope L fa cd)) Q E { s with heap := h', toks := t' }) :
    wpAny (model Challenge.pw_ij0208_01 w) (A.deeper (envOfC qual scope L fa cd)) (execs (body.drop 1) (envOfC qual scope L fa cd)) Q E s := by
  have e := ho.symm.trans (rfl : (hd.heap_39 w.params).lookup 207 = some _)
  cases e
  clear ho
  dsimp only [List.drop] at hK ⊢
  refine wpAny_execs_cons ?_
  walk_at "WALKS"
  refine lawLists hn hdr (B.keeps F.keep) (by first | exact dD hroom (by decide) | (simp only [depth_deeper]; omega)) (by first | exact uD hu (by decide) | (simp only [units_deeper]; omega)) (by exact hh) fun Ls ln rows h2 t2 hrl hrows O => ?_
  obtain ⟨F2, N2, nd2⟩ := callOut F N nd O
  replace N2 : News g L h2 ((L + 3, oLs) :: (NW ++ (Ls, listOf (rwRefs rows).toArray ln) :: rowObjs rows)) := N2
  replace nd2 : Nod ((L + 3, oLs) :: (NW ++ (Ls, listOf (rwRefs rows).toArray ln) :: rowObjs rows)) := nd2
  walk_at "WALKS"
  rename Fr _ _ _ _ => F4
  rename News _ _ _ _ => N4
  rename Nod _ => nd4
  rename_i oL' c1
  exact hK Ls rows ln oL' _ _ hrl hrows c1 F4 N4 nd4

end
section
local macro_rules | `(tactic| walk_at "no goal 0") => `(tactic| fail)
local macro_rules | `(tactic| walk_at "no goal 1") => `(tactic| fail)
theorem reset_SC : True := by
  w_top off
  trivial
local macro_rules | `(tactic| walk_at "execs cons") => `(tactic| refine Halt.go ?_)
local macro_rules | `(tactic| walk_at "subscriptTail") => `(tactic| ((with_reducible show wpAny _ _ (subscriptTail _ _ (Value.str _ _) (Value.int _ _)) _ _ _); k_dflt (refine ltrItem (by omega) ?_)))
def owKvs (dr : Int) (n : Nat) (os : List (Nat × Nat)) : List (Str × Value) := os.map fun p => (ltr p.1, .int (owOf dr n p.1) p.2)
theorem owKvs_none {dr : Int} {n i : Nat} {os : List (Nat × Nat)} (h : os.map (·.1) = List.range i) : valueAt (owKvs dr n os) (ltr i) = none := by
  unfold valueAt owKvs
  simp only [Option.map_eq_none_iff, List.find?_eq_none, List.mem_map]
  rintro x ⟨p, hp, rfl⟩ e
  have : p.1 = i := ltr_inj.mp (by simpa using e)
  have h1 : p.1 ∈ List.range i := by rw [← h]; exact List.mem_map_of_mem (f := (·.1)) hp
  rw [List.mem_range] at h1; omega
theorem lawOwner {w : World} {A : Around} {s : Shared} {g : Heap} {L fa : Addr} {cd : Value} {name qual : Str} {params : Arguments} {body : List Stmt} {scope : Scope} {dV kV doc pm cdv ct oc : Value} {an od : Option Addr} {osl : Array (Option Value)} {Q : Flow → Shared → Prop} {E : Value → Shared → Prop}
    {m : Str → Option Value} {oO oR oS : Obj} {NW : List (Addr × Obj)} {vO : Option Value} {n nt dt : Nat} {dr : Int}
    (ho : (hd.heap_39 w.params).lookup 207 = some ⟨oc, od, .func (fnOf name qual params body scope dV kV doc pm an cdv ct), osl⟩)
    (hA : A.frames = some []) (hroom : A.depth < 410) (hu : A.units < 10) (hh : A.handled = none) (B : Bs w g)
    (F : Fr g L s.heap m)
    (N : News g L s.heap ((L + 4, oO) :: NW)) (nd : Nod ((L + 4, oO) :: NW)) (mR : (L + 2, oR) ∈ NW) (mS : (L + 1, oS) ∈ NW) (cO : oO.data = .cell vO) (cR : oR.data = .cell (some (.int dr dt))) (cS : oS.data = .cell (some (.int n nt)))
    (hn : n ≤ 5) (hn0 : 0 < n) (hdr : 0 ≤ dr)
    (hK : ∀ Ow oOw os oO' h' t', os.map (·.1) = List.range n → oOw.IsDictOf (strKind Challenge.pw_ij0208_01 w) (owKvs dr n os) → (Ow == sysModules) = false → oO'.data = .cell (some (.ref Ow)) →
      Fr g L h' m → News g L h' ((L + 4, oO') :: (Ow, oOw) :: NW) → Nod ((L + 4, oO') :: (Ow, oOw) :: NW) →
      wpAny (model Challenge.pw_ij0208_01 w) (A.deeper (envOfC qual scope L fa cd)) (execs (body.drop 3) (envOfC qual scope L fa cd)) Q E { s with heap := h', toks := t' }) :
    wpAny (model Challenge.pw_ij0208_01 w) (A.deeper (envOfC qual scope L fa cd)) (execs (body.drop 2) (envOfC qual scope L fa cd)) Q E s := by
  have e := ho.symm.trans (rfl : (hd.heap_39 w.params).lookup 207 = some _)
  cases e
  clear ho
  dsimp only [List.drop] at hK ⊢
  refine wpAny_execs_cons ?_
  walk_at "WALKS"
  rw [arm_eval_DictComp]
  refine compD (use := none) (strKind _ _) F (by rfl) (by decide) rfl (by decide) (by decide) ?_
  walk_at "WALKS"
  rename IsRange _ _ _ _ _ _ _ _ => R1
  rename Fr _ _ _ _ => F1
  rename News _ _ _ _ => N1
  rename Nod _ => nd1
  refine Halt.go ?_
  refine srcN (g := g) hh R1 (by omega) fun it s₂ src => ?_
  refine ⟨_, _, _, _, _, fun i kvs nw => ∃ os : List (Nat × Nat), nw = (L + 4, oO) :: NW ∧ kvs = owKvs dr n os ∧ os.map (·.1) = List.range i ∧ i ≤ n,
    src, F1, N1, nd1, ⟨[], rfl, rfl, rfl, Nat.zero_le _⟩, fun _ _ _ _ => trivial, ?_, ?_, finEvalD fun Ow oOw h2 tk2 kvs nw hJ hlt hD F2 N2 nd2 => ?_⟩
  · rintro i kvs nw ⟨os, rfl, rfl, h1, h2⟩
    have := congrArg List.length h1
    simp at this
    simp [owKvs]; omega
  · rintro i v kvs nw I2 oI2 C oC D2 oD2 m₂ h3 tk3 E' ⟨hi2, tv, rfl⟩ ⟨os, rfl, rfl, hos, hin⟩ hDk hC hv F5 N5 nd5
    refine wpAny_tests_nil ?_
    walk_at "WALKS"
    · exact strKind_is _ _ _ _
    rw [stored_new (owKvs_none hos)]
    exact ⟨_, _, _, rfl, F5, N5, nd5, os ++ [(i, _)], rfl, (by unfold owKvs; rw [List.map_append]; rfl), by rw [List.map_append, hos, List.range_succ]; rfl, by omega⟩
  obtain ⟨os, rfl, rfl, hos, _⟩ := hJ
  walk_at "WALKS"
  rename Fr _ _ _ _ => F4
  rename News _ _ _ _ => N4
  rename Nod _ => nd4
  rename_i oO' c1
  exact hK Ow oOw os oO' _ _ hos hD (notMods F2 B hlt) c1 F4 (newsPerm N4 (.swap _ _ _)) (nodPerm nd4 (.swap _ _ _))

end
section
local macro_rules | `(tactic| walk_at "no goal 0") => `(tactic| fail)
theorem reset_SD : True := by
  w_top off
  trivial
local macro_rules | `(tactic| walk_at "execs cons") => `(tactic| refine Halt.go ?_)
theorem lawSorter {w : World} {A : Around} {s : Shared} {g : Heap} {L fa : Addr} {cd : Value} {name qual : Str} {params : Arguments} {body : List Stmt} {scope : Scope} {dV kV doc pm cdv ct oc : Value} {an od : Option Addr} {osl : Array (Option Value)} {Q : Flow → Shared → Prop} {E : Value → Shared → Prop}
    {m : Str → Option Value} {NW : List (Addr × Obj)}
    (ho : (hd.heap_39 w.params).lookup 207 = some ⟨oc, od, .func (fnOf name qual params body scope dV kV doc pm an cdv ct), osl⟩)
    (hA : A.frames = some []) (hroom : A.depth < 410) (hu : A.units < 10) (hh : A.handled = none) (B : Bs w g)
    (F : Fr g L s.heap m)
    (N : News g L s.heap NW) (nd : Nod NW)
    (hK : ∀ x dx d D oD h' t', (D == sysModules) = false → oD.IsDictOf (intKind Challenge.pw_ij0208_01 w) (kvsOf []) →
      Fr g L h' (fun y => if y = Str.ofString "sorter" then some (.ref x) else m y) → News g L h' ((x, sobj dx) :: (dx, sdict d (.ref D) .none 0 0) :: (D, oD) :: (famOf [] ++ NW)) → Nod ((x, sobj dx) :: (dx, sdict d (.ref D) .none 0 0) :: (D, oD) :: (famOf [] ++ NW)) →
      wpAny (model Challenge.pw_ij0208_01 w) (A.deeper (envOfC qual scope L fa cd)) (execs (body.drop 4) (envOfC qual scope L fa cd)) Q E { s with heap := h', toks := t' }) :
    wpAny (model Challenge.pw_ij0208_01 w) (A.deeper (envOfC qual scope L fa cd)) (execs (body.drop 3) (envOfC qual scope L fa cd)) Q E s := by
  have e := ho.symm.trans (rfl : (hd.heap_39 w.params).lookup 207 = some _)
  cases e
  clear ho
  dsimp only [List.drop] at hK ⊢
  refine wpAny_execs_cons ?_
  walk_at "WALKS"
  refine mkSorter F B N nd (by first | exact dD hroom (by decide) | (simp only [depth_deeper]; omega)) (by first | exact uD hu (by decide) | (simp only [units_deeper]; omega)) (by exact hh) fun x dx d D oD h2 t2 hDm hD F2 N2 nd2 => ?_
  replace N2 : News g L h2 ((x, sobj dx) :: (dx, sdict d (.ref D) .none 0 0) :: (D, oD) :: (famOf [] ++ NW)) := N2
  replace nd2 : Nod ((x, sobj dx) :: (dx, sdict d (.ref D) .none 0 0) :: (D, oD) :: (famOf [] ++ NW)) := nd2
  walk_at "WALKS"
  rename Fr _ _ _ _ => F4
  rename News _ _ _ _ => N4
  rename Nod _ => nd4
  exact hK x dx d D oD _ _ hDm hD F4 N4 nd4

end
section
local macro_rules | `(tactic| walk_at "no goal 0") => `(tactic| fail)
theorem reset_SF : True := by
  w_top off
  trivial
local macro_rules | `(tactic| walk_at "call ref") => `(tactic| ((with_reducible show wpAny _ _ (call (Value.ref 65) [Value.ref _, Value.ref _]) _ _ _); refine Halt.go ?_))
local macro_rules | `(tactic| walk_at "subscriptTail") => `(tactic| ((with_reducible show wpAny _ _ (subscriptTail _ _ (Value.ref _) (Value.str _ _)) _ _ _); k_dflt (refine dictItemG (knd := strKind _ _) (by walk_at "HGET") (by assumption) (strKind_is _ _ _ _) (by assumption) ?_; try dsimp only)))
theorem ow_at {dr : Int} {n : Nat} {os : List (Nat × Nat)} (hnd : (os.map (·.1)).Nodup) {q : Nat × Nat} (hq : q ∈ os) : valueAt (owKvs dr n os) (ltr q.1) = some (.int (owOf dr n q.1) q.2) := by
  induction os with
  | nil => cases hq
  | cons x os ih =>
    have hn := List.nodup_cons.mp hnd
    unfold valueAt owKvs
    rw [List.map_cons, List.find?_cons]
    rcases List.mem_cons.mp hq with rfl | hq
    · simp
    · have hm : q.1 ∈ os.map (·.1) := List.mem_map_of_mem (f := (·.1)) hq
      have hne' : decide (ltr x.1 = ltr q.1) = false := by
        rw [decide_eq_false_iff_not, ltr_inj]; intro e; rw [← e] at hm; exact hn.1 hm
      have := ih hn.2 hq
      unfold valueAt owKvs at this
      simp only [hne']
      exact this
inductive AddsJ (w : World) (x dx D : Addr) (d : SD) (n : Nat) (dr : Int) (NW : List (Addr × Obj)) (m : Str → Option Value) (i : Nat) (m' : Str → Option Value) (nw : List (Addr × Obj)) : Prop
  | mk (oD' : Obj) (nodes : List Nd) (ug : Option Value) (a0 : nw = (x, sobj dx) :: (dx, sdict d (.ref D) .none 0 0) :: (D, oD') :: (famOf nodes ++ NW)) (a1 : (m' = fun y => if y = Str.ofString "sorter" then some (.ref x) else if y = Str.ofString "g" then ug else m y)) (a2 : oD'.IsDictOf (intKind Challenge.pw_ij0208_01 w) (kvsOf nodes)) (a3 : nodes.map absN = sorterOf (pdOf (lsOf dr n) (owOf dr n)) i) (a4 : nodes.length ≤ 11 * i) (a5 : (∀ d ∈ nodes, d.succ.length ≤ 10 * i)) (a6 : i ≤ n) : AddsJ w x dx D d n dr NW m i m' nw
theorem lawAdds {w : World} {A : Around} {s : Shared} {g : Heap} {L fa : Addr} {cd : Value} {name qual : Str} {params : Arguments} {body : List Stmt} {scope : Scope} {dV kV doc pm cdv ct oc : Value} {an od : Option Addr} {osl : Array (Option Value)} {Q : Flow → Shared → Prop} {E : Value → Shared → Prop}
    {m : Str → Option Value} {x dx D Ls Ow : Addr} {d : SD} {oD oO oLs oS oOw : Obj} {NW : List (Addr × Obj)} {n nt ln : Nat} {dr : Int} {rows : List Rw} {os : List (Nat × Nat)}
    (ho : (hd.heap_39 w.params).lookup 207 = some ⟨oc, od, .func (fnOf name qual params body scope dV kV doc pm an cdv ct), osl⟩)
    (hE : PassesOwn (model Challenge.pw_ij0208_01 w) (A.deeper (envOfC qual scope L fa cd)) (envOfC qual scope L fa cd) E)
    (hA : A.frames = some []) (hroom : A.depth < 410) (hu : A.units < 10) (hh : A.handled = none) (B : Bs w g)
    (F : Fr g L s.heap fun y => if y = Str.ofString "sorter" then some (.ref x) else m y)
    (N : News g L s.heap ((x, sobj dx) :: (dx, sdict d (.ref D) .none 0 0) :: (D, oD) :: (famOf [] ++ NW))) (nd : Nod ((x, sobj dx) :: (dx, sdict d (.ref D) .none 0 0) :: (D, oD) :: (famOf [] ++ NW)))
    (mO : (L + 4, oO) ∈ NW) (mLs : (L + 3, oLs) ∈ NW) (mS : (L + 1, oS) ∈ NW) (mOw : (Ow, oOw) ∈ NW) (mL : (Ls, listOf (rwRefs rows).toArray ln) ∈ NW) (mR : ∀ r ∈ rows, (r.a, listOf (lvals r.ps).toArray r.n) ∈ NW)
    (cO : oO.data = .cell (some (.ref Ow))) (cLs : oLs.data = .cell (some (.ref Ls))) (cS : oS.data = .cell (some (.int n nt)))
    (hDm : (D == sysModules) = false) (hD : oD.IsDictOf (intKind Challenge.pw_ij0208_01 w) (kvsOf []))
    (hOm : (Ow == sysModules) = false) (hO : oOw.IsDictOf (strKind Challenge.pw_ij0208_01 w) (owKvs dr n os)) (hos : os.map (·.1) = List.range n)
    (hn : n ≤ 5) (hrl : rows.length = n) (hrows : ∀ (g : Nat) row, rows[g]? = some row → row.ps.map (·.1) = rowIx dr n g)
    (hK : ∀ oD' nodes ug h' t', oD'.IsDictOf (intKind Challenge.pw_ij0208_01 w) (kvsOf nodes) → nodes.map absN = sorterOf (pdOf (lsOf dr n) (owOf dr n)) n → nodes.length ≤ 60 → (∀ d ∈ nodes, d.succ.length ≤ 60) →
      Fr g L h' (fun y => if y = Str.ofString "sorter" then some (.ref x) else if y = Str.ofString "g" then ug else m y) → News g L h' ((x, sobj dx) :: (dx, sdict d (.ref D) .none 0 0) :: (D, oD') :: (famOf nodes ++ NW)) → Nod ((x, sobj dx) :: (dx, sdict d (.ref D) .none 0 0) :: (D, oD') :: (famOf nodes ++ NW)) →
      wpAny (model Challenge.pw_ij0208_01 w) (A.deeper (envOfC qual scope L fa cd)) (execs (body.drop 5) (envOfC qual scope L fa cd)) Q E { s with heap := h', toks := t' }) :
    wpAny (model Challenge.pw_ij0208_01 w) (A.deeper (envOfC qual scope L fa cd)) (execs (body.drop 4) (envOfC qual scope L fa cd)) Q E s := by
  have e := ho.symm.trans (rfl : (hd.heap_39 w.params).lookup 207 = some _)
  cases e
  clear ho
  dsimp only [List.drop] at hK ⊢
  have hl10 : ∀ r ∈ rows, r.ps.length ≤ 10 := fun r hr => by
    obtain ⟨j, hj⟩ := List.getElem?_of_mem hr
    have := congrArg List.length (hrows j r hj)
    rw [List.length_map] at this
    rw [this]; exact row_len hn j
  refine wpAny_execs_cons ?_
  refine forJ F (hE := hE) ?_
  walk_at "WALKS"
  rename IsRange _ _ _ _ _ _ _ _ => R1
  rename Fr _ _ _ _ => F1
  rename News _ _ _ _ => N1
  rename Nod _ => nd1
  refine Halt.go ?_
  refine srcN (g := g) hh R1 (by omega) fun it s₂ src => ?_
  refine ⟨_, _, _, _, _, _, AddsJ w x dx D d n dr NW m,
    src, F1, N1, nd1, ⟨oD, [], m (Str.ofString "g"), rfl, ?_, hD, rfl, Nat.le_refl _, (fun _ h => nomatch h), Nat.zero_le _⟩, fun _ _ _ _ => trivial, ?_, ?_⟩
  · funext y
    by_cases h1 : y = Str.ofString "g"
    · subst h1; simp
    · simp [h1]
  · rintro i v m₁ nw I oI h tk1 hI ⟨hi2, tv, rfl⟩ ⟨oD', nodes, ug, rfl, rfl, hD', hno, hnl, hns, hin⟩ F2 N2 nd2
    walk_at "WALKS"
    rename Fr _ _ _ _ => F3
    rename News _ _ _ _ => N3
    refine methodStar ?_
    w_on
    walk1
    refine gaBound (f := 131) F3 B N3 nd2 (InstAt.mk1 (N3 _ (.tail _ (.head _))).1 (N3 _ (.tail _ (.tail _ (.head _)))).1) (by kernel_rfl) (by kernel_rfl) (by kernel_rfl) (by kernel_rfl) (by kernel_rfl) (by kernel_rfl) (by decide +kernel) (by rfl) ?_
    intro q h4 F4 N4 nd4
    refine cwMS2 (w := w) (self := .ref x) (f := 131) (by kernel_rfl) ?_
    have hinr : rng n (i : Int) := ⟨by omega, by omega⟩
    obtain ⟨r, hr, hrix⟩ := rowAt hrl hrows hinr
    have g1 := mR r (List.mem_of_getElem? hr)
    have hr10 := hl10 r (List.mem_of_getElem? hr)
    have hi0 : 0 ≤ (i : Int) := by omega
    walk_at "WALKS"
    refine items_star ?_
    walk_at "WALKS"
    rename Fr _ _ _ _ => F5
    rename News _ _ _ _ => N5
    rename Nod _ => nd5
    refine Halt.go ?_
    rw [eval_ListComp]
    refine compU (use := none) F5 (by rfl) (by decide) rfl (by decide) (by decide) ?_
    walk_at "WALKS"
    refine Halt.go ?_
    refine srcList (g := g) hh (N5 (r.a, listOf (lvals r.ps).toArray r.n) (by walk_at "MM")).1 fun it2 s₃ src2 => ?_
    refine ⟨_, _, _, _, _, fun j ys nw => nw = (q, methodObj (.ref 131) (.ref x)) :: (I, oI) :: (x, sobj dx) :: (dx, sdict d (.ref D) .none 0 0) :: (D, oD') :: (famOf nodes ++ NW) ∧ ∃ ps : List (Int × Nat), ys = ivals ps ∧ ps.map (·.1) = ((r.ps.map (·.1)).take j).map (owOf dr n) ∧ ps.length ≤ j,
      src2, by rw [sizeLine_eq]; simp [lvals]; omega, F5, N5, nd5, ⟨rfl, [], rfl, rfl, Nat.le_refl _⟩, fun j ys nw hJ => by rw [hJ.1]; exact .inl (by walk_at "MM"), ?_, finEval fun D2 h6 tk6 ys nw hJ F6 N6 nd6 => ?_⟩
    · clear F5 N5 nd5 src2
      rintro j v ys nw I2 oI2 C oC D2 m₂ h3 tk3 E' hP ⟨rfl, ps, rfl, hps, hpl⟩ hC hv F5 N5 nd5
      obtain ⟨p, hp, rfl⟩ : ∃ p, r.ps[j]? = some p ∧ v = .str (ltr p.1) p.2 := by
        rw [List.getElem?_toArray, lvals, List.getElem?_map, Option.map_eq_some_iff] at hP
        obtain ⟨p, hp, e⟩ := hP
        exact ⟨p, hp, e.symm⟩
      have hpn : p.1 ∈ os.map (·.1) := by
        rw [hos]
        refine List.mem_range.mpr ((hous (dr := dr) (n := n) (by omega)).h1 i hinr p.1 ?_)
        rw [← hrix]; exact List.mem_map_of_mem (f := (·.1)) (List.mem_of_getElem? hp)
      obtain ⟨o1, ho1, ho2⟩ := List.mem_map.mp hpn
      have hval := ow_at (dr := dr) (n := n) (by rw [hos]; exact List.nodup_range) ho1
      rw [ho2] at hval
      walk_at "WALKS"
      refine ⟨_, _, _, rfl, F5, N5, nd5, rfl, ps ++ [(owOf dr n p.1, _)], by rw [← ivals_snoc], ?_, by simp; omega⟩
      rw [List.map_append, hps, List.take_add_one, List.getElem?_map, hp]
      simp
    clear F5 N5 nd5 src2
    obtain ⟨rfl, ps, rfl, hps, hpl⟩ := hJ
    have hpl2 : ps.length ≤ r.ps.length := by
      have e1 : (lvals r.ps).toArray.size = r.ps.length := by simp [lvals]
      rw [← e1]; exact hpl
    have hps2 : (ps.filter fun p => p.1 ≠ (i : Int)).map (·.1) = pdOf (lsOf dr n) (owOf dr n) i := by
      have e1 : (lvals r.ps).toArray.size = r.ps.length := by simp [lvals]
      rw [e1, List.take_of_length_le (by simp)] at hps
      unfold pdOf
      rw [← hrix, Rw.ix, ← hps, List.filter_map]; rfl
    walk_at "WALKS"
    rename Fr _ _ _ _ => F7
    rename News _ _ _ _ => N7
    rename Nod _ => nd7
    rename Addr => D3
    refine Halt.go ?_
    refine filtI F7 N7 nd7 B (Around.frames_deeper (by assumption)) ⟨show ScopeKind.function ≠ ScopeKind.module by decide, rfl⟩ (.tail _ (.head _)) (.head _) (by omega) (by first | exact dD hroom (by decide) | (simp only [depth_deeper]; omega)) (by first | exact uD hu (by decide) | (simp only [units_deeper]; omega)) (by exact hh) ?_
    intro D4 n4 h8 t8 F8 N8 nd8
    obtain ⟨fl, hfl⟩ : ∃ fl, fl = ps.filter fun p => p.1 ≠ (i : Int) := ⟨_, rfl⟩
    rw [← hfl] at hps2 N8 nd8
    have hfll : fl.length ≤ 10 := by rw [hfl]; exact Nat.le_trans (List.length_filter_le _ _) (by omega)
    refine star_seq F8 N8 (.head _) rfl rfl (.inl rfl) (ws := ivals fl) rfl (by rw [sizeLine_eq]; simp; omega) ?_
    intro h9 F9 N9
    walk_at "WALKS"
    · exact ⟨(N9 (q, methodObj (.ref 131) (.ref x)) (by walk_at "MM")).1, (B.keeps F9.keep).X⟩
    refine call_meth (q := q) (f := .ref 131) (self := .ref x) N9 (by walk_at "MM") ?_
    obtain ⟨WS, hWS⟩ : ∃ WS, WS = (x, sobj dx) :: (dx, sdict d (.ref D) .none 0 0) :: (D, oD') :: famOf nodes := ⟨_, rfl⟩
    obtain ⟨RT, hRT⟩ : ∃ RT, RT = (D4, listOf (ivals fl).toArray n4) :: (D3, listOf #[.int i tv] 0) :: (D2, listOf (ivals ps).toArray (ivals ps).length) :: (q, methodObj (.ref 131) (.ref x)) :: (I, oI) :: NW := ⟨_, rfl⟩
    have pmA : (WS ++ RT).Perm ((D4, listOf (ivals fl).toArray n4) :: (D3, listOf #[.int i tv] 0) :: (D2, listOf (ivals ps).toArray (ivals ps).length) :: (q, methodObj (.ref 131) (.ref x)) :: (I, oI) :: (x, sobj dx) :: (dx, sdict d (.ref D) .none 0 0) :: (D, oD') :: (famOf nodes ++ NW)) := by
      rw [hWS, hRT]; walk_at "PERM"
    have N10 : News g L h9 (WS ++ RT) := newsPerm N9 pmA
    have nd10 : Nod (WS ++ RT) := nodPerm nd8 pmA
    rw [List.append_nil]
    refine addSpec (c := 10 * i) (nodes := nodes) hD' hDm (hWS ▸ newsHave (W := WS) N10) (hWS ▸ bsHide (W := WS) F9 B N10) (hWS ▸ nodL (W := WS) nd10) (by omega) (by omega) hns (by omega) (by first | exact dD hroom (by decide) | omega) (by first | exact uD hu (by decide) | omega) (by exact hh) ?_
    intro oD2 nodes2 h11 t11 hD2 hno2 hns2 hnl2 O
    obtain ⟨F11, N11, nd11⟩ := back (W := WS) F9 N10 nd10 (hWS ▸ O)
    obtain ⟨WS2, hWS2⟩ : ∃ WS2, WS2 = (x, sobj dx) :: (dx, sdict d (.ref D) .none 0 0) :: (D, oD2) :: famOf nodes2 := ⟨_, rfl⟩
    rw [← hWS2] at N11 nd11
    have pmB : (((I, oI) :: (x, sobj dx) :: (dx, sdict d (.ref D) .none 0 0) :: (D, oD2) :: (famOf nodes2 ++ NW)) ++ [(D4, listOf (ivals fl).toArray n4), (D3, listOf #[.int i tv] 0), (D2, listOf (ivals ps).toArray (ivals ps).length), (q, methodObj (.ref 131) (.ref x))]).Perm (WS2 ++ RT) := by
      rw [hWS2, hRT]; walk_at "PERM"
    have N12 := newsSub (newsPerm N11 pmB) fun q hq => List.mem_append_left _ hq
    have nd12 := nodSub (nodPerm nd11 pmB) (List.sublist_append_left _ _)
    walk_at "WALKS"
    refine ⟨h11, t11, _, _, rfl, F11, N12, nd12, oD2, nodes2, some (.int i tv), rfl, ?_, hD2, ?_, by omega, fun d hd => by have := hns2 d hd; omega, hi2⟩
    · funext y
      by_cases h1 : y = Str.ofString "g"
      · subst h1; simp [show ¬ (Str.ofString "g" = Str.ofString "sorter") by decide]
      · simp [h1]
    · rw [hno2, hno, hps2]
      unfold sorterOf
      rw [List.range_succ, List.foldl_append]; rfl
  · rintro h tk1 m' nw ⟨oD', nodes, ug, rfl, rfl, hD', hno, hnl, hns, hin⟩ F2 N2 nd2
    exact hK oD' nodes ug _ _ hD' hno (by omega) (fun d hd => by have := hns d hd; omega) F2 N2 nd2

end
section
theorem reset_SG : True := by
  w_top off
  trivial
local macro_rules | `(tactic| walk_at "execs cons") => `(tactic| refine Halt.go ?_)
theorem lawRing {w : World} {A : Around} {s : Shared} {g : Heap} {L fa : Addr} {cd : Value} {name qual : Str} {params : Arguments} {body : List Stmt} {scope : Scope} {dV kV doc pm cdv ct oc : Value} {an od : Option Addr} {osl : Array (Option Value)} {Q : Flow → Shared → Prop} {E : Value → Shared → Prop}
    {m : Str → Option Value} {x dx D : Addr} {d : SD} {oD oT oG : Obj} {nodes : List Nd} {NW : List (Addr × Obj)} {n : Nat} {vT vG : Option Value} {pd : Int → List Int}
    (ho : (hd.heap_39 w.params).lookup 207 = some ⟨oc, od, .func (fnOf name qual params body scope dV kV doc pm an cdv ct), osl⟩)
    (hA : A.frames = some []) (hroom : A.depth < 410) (hu : A.units < 10) (hh : A.handled = none) (B : Bs w g)
    (F : Fr g L s.heap fun y => if y = Str.ofString "sorter" then some (.ref x) else m y)
    (N : News g L s.heap ((x, sobj dx) :: (dx, sdict d (.ref D) .none 0 0) :: (D, oD) :: (famOf nodes ++ ((L + 6, oT) :: (L + 5, oG) :: NW)))) (nd : Nod ((x, sobj dx) :: (dx, sdict d (.ref D) .none 0 0) :: (D, oD) :: (famOf nodes ++ ((L + 6, oT) :: (L + 5, oG) :: NW))))
    (cT : oT.data = .cell vT) (cG : oG.data = .cell vG)
    (hDm : (D == sysModules) = false) (hD : oD.IsDictOf (intKind Challenge.pw_ij0208_01 w) (kvsOf nodes))
    (hp : ∀ g, rng n g → ∀ p ∈ pd g, rng n p) (hno : nodes.map absN = sorterOf pd n) (HN : NA n pd (fK pd []) nodes)
    (hK : ∀ b R rd Gv Tk gn tn rn ct1 d' oT' oG' h' t', (if b = true then ∃ v, Relation.TransGen (fun a b => b ∈ scOf n pd a) v v else ∃ rank : Int → Nat, ∀ g, rng n g → ∀ p ∈ pd g, rank g < rank p) → Kahn n pd [] (rd.map (·.1)) →
      oT'.data = .cell (some (.ref Tk)) → oG'.data = .cell (some (.ref Gv)) →
      Fr g L h' (fun y => if y = Str.ofString "copies" then some (.int 1 ct1) else if y = Str.ofString "ring" then some (.bool b) else if y = Str.ofString "sorter" then some (.ref x) else m y) →
      News g L h' ((Gv, listOf #[] gn) :: (Tk, listOf #[] tn) :: (x, sobj dx) :: (dx, sdict d' (.ref D) (.ref R) 0 0) :: (D, oD) :: (R, listOf (ivals rd).toArray rn) :: (famOf nodes ++ ((L + 6, oT') :: (L + 5, oG') :: NW))) → Nod ((Gv, listOf #[] gn) :: (Tk, listOf #[] tn) :: (x, sobj dx) :: (dx, sdict d' (.ref D) (.ref R) 0 0) :: (D, oD) :: (R, listOf (ivals rd).toArray rn) :: (famOf nodes ++ ((L + 6, oT') :: (L + 5, oG') :: NW))) →
      wpAny (model Challenge.pw_ij0208_01 w) (A.deeper (envOfC qual scope L fa cd)) (execs (body.drop 6) (envOfC qual scope L fa cd)) Q E { s with heap := h', toks := t' }) :
    wpAny (model Challenge.pw_ij0208_01 w) (A.deeper (envOfC qual scope L fa cd)) (execs (body.drop 5) (envOfC qual scope L fa cd)) Q E s := by
  have e := ho.symm.trans (rfl : (hd.heap_39 w.params).lookup 207 = some _)
  cases e
  clear ho
  dsimp only [List.drop] at hK ⊢
  refine wpAny_execs_cons ?_
  walk_at "WALKS"
  obtain ⟨oL, hoL, hoLd⟩ := frObj F
  obtain ⟨WS, hWS⟩ : ∃ WS, WS = (x, sobj dx) :: (dx, sdict d (.ref D) .none 0 0) :: (D, oD) :: famOf nodes := ⟨_, rfl⟩
  have pe : (((L + 6, oT) :: (L + 5, oG) :: NW) ++ (WS ++ [])).Perm ((x, sobj dx) :: (dx, sdict d (.ref D) .none 0 0) :: (D, oD) :: (famOf nodes ++ ((L + 6, oT) :: (L + 5, oG) :: NW))) := by
    rw [hWS, List.append_nil]; exact List.perm_append_comm
  have N0 : News g L s.heap (((L + 6, oT) :: (L + 5, oG) :: NW) ++ (WS ++ [])) := newsPerm N pe
  have nd0 : Nod (((L + 6, oT) :: (L + 5, oG) :: NW) ++ (WS ++ [])) := nodPerm nd pe
  have e0 : WS ++ [(L, oL)] = (x, sobj dx) :: (dx, sdict d (.ref D) .none 0 0) :: (D, oD) :: (famOf nodes ++ [(L, oL)]) := by rw [hWS]; rfl
  have hv := haveN N0 hoL
  have hb := bsHideN (oL := oL) F B N0
  have hn := nodN (oL := oL) N0 nd0
  rw [e0] at hv hb hn
  refine ringSpec (sc := scOf n pd) (FS := [(L, oL)]) hD hDm HN.sc (fun d hd q hq => HN.key0.mp (mem_scOf.mp hq).1) HN.len hv hb hn (Around.frames_deeper hA) ⟨show ScopeKind.function ≠ ScopeKind.module by decide, rfl, hoLd, trivial⟩ (by first | exact dD hroom (by decide) | (simp only [depth_deeper]; omega)) (by first | exact uD hu (by decide) | (simp only [units_deeper]; omega)) (by exact hh) ?_
  intro b R d' items n' h2 t2 FS' hring hitems hs O
  obtain ⟨oL', FS₁, rfl, hsl, hs1⟩ := slotCons hs
  have : FS₁ = [] := by cases FS₁ with | nil => rfl | cons => exact hs1.elim
  subst this
  rw [← e0] at O
  obtain ⟨F2, N2, nd2⟩ := backN (pre := (L + 6, oT) :: (L + 5, oG) :: NW) (W := WS) (FS := []) (W' := (R, listOf (ivals items).toArray n') :: (x, sobj dx) :: (dx, sdict d' (.ref D) (.ref R) 0 0) :: (D, oD) :: famOf nodes) (FS' := []) F N0 nd0 hoL O hsl
  have pm : ((L + 6, oT) :: (L + 5, oG) :: (x, sobj dx) :: (dx, sdict d' (.ref D) (.ref R) 0 0) :: (D, oD) :: (R, listOf (ivals items).toArray n') :: (famOf nodes ++ NW)).Perm (((L + 6, oT) :: (L + 5, oG) :: NW) ++ (((R, listOf (ivals items).toArray n') :: (x, sobj dx) :: (dx, sdict d' (.ref D) (.ref R) 0 0) :: (D, oD) :: famOf nodes) ++ [])) := by
    rw [List.append_nil]; walk_at "PERM"
  replace N2 := newsPerm N2 pm
  replace nd2 := nodPerm nd2 pm
  clear N nd N0 nd0 hv hb hn O pe pm F
  walk_at "WALKS"
  rename Fr _ _ _ _ => F9
  rename News _ _ _ _ => N9
  rename Nod _ => nd9
  rename_i Gv _ _ _ _ Tk _ _ _ _ D9 _ _ _ _ _ _ _ _ _ _ _ _ _ _ oG' _ _ _ cG' _ oT' _ _ cT' _ _ _
  have pm2 : (((Gv, listOf #[] 0) :: (Tk, listOf #[] 0) :: (x, sobj dx) :: (dx, sdict d' (.ref D) (.ref R) 0 0) :: (D, oD) :: (R, listOf (ivals items).toArray n') :: (famOf nodes ++ ((L + 6, oT') :: (L + 5, oG') :: NW))) ++ [(D9, tupObj [.bool b, .ref Gv, .ref Tk, .int 1 t2])]).Perm
      ((D9, tupObj [.bool b, .ref Gv, .ref Tk, .int 1 t2]) :: (Tk, listOf #[] 0) :: (Gv, listOf #[] 0) :: (L + 6, oT') :: (L + 5, oG') :: (x, sobj dx) :: (dx, sdict d' (.ref D) (.ref R) 0 0) :: (D, oD) :: (R, listOf (ivals items).toArray n') :: (famOf nodes ++ NW)) := by first | exact segsPerm [[(D9, tupObj [.bool b, .ref Gv, .ref Tk, .int 1 t2])], [(Tk, listOf #[] 0)], [(Gv, listOf #[] 0)], [(L + 6, oT')], [(L + 5, oG')], [(x, sobj dx)], [(dx, sdict d' (.ref D) (.ref R) 0 0)], [(D, oD)], [(R, listOf (ivals items).toArray n')], famOf nodes, NW] [2, 1, 5, 6, 7, 8, 9, 3, 4, 10, 0] 11 rfl (by decide) | (simp only [List.cons_append, List.append_assoc]; exact segsPerm [[(D9, tupObj [.bool b, .ref Gv, .ref Tk, .int 1 t2])], [(Tk, listOf #[] 0)], [(Gv, listOf #[] 0)], [(L + 6, oT')], [(L + 5, oG')], [(x, sobj dx)], [(dx, sdict d' (.ref D) (.ref R) 0 0)], [(D, oD)], [(R, listOf (ivals items).toArray n')], famOf nodes, NW] [2, 1, 5, 6, 7, 8, 9, 3, 4, 10, 0] 11 rfl (by decide))
  exact hK b R items Gv Tk 0 0 n' _ d' oT' oG' _ _ (ring0 hp HN hring) (by rw [hitems]; exact kahn0 hno HN) cT' cG' F9 (newsSub (newsPerm N9 pm2) fun q hq => List.mem_append_left _ hq) (nodSub (nodPerm nd9 pm2) (List.sublist_append_left _ _))

end
section
theorem reset_AL : True := by
  w_top off
  trivial
theorem lawAll {w : World} {A : Around} {s : Shared} {g : Heap} {L fa : Addr} {cd : Value} {name qual : Str} {params : Arguments} {body : List Stmt} {scope : Scope} {dV kV doc pm cdv ct oc : Value} {an od : Option Addr} {osl : Array (Option Value)} {Q : Flow → Shared → Prop} {E : Value → Shared → Prop}
    {m : Str → Option Value} {a : Addr} {vs : List Value} {ns : List Int} {o1 o2 o3 o4 o5 o6 o7 o8 : Obj} {v1 v2 v3 v4 v5 v6 v7 v8 : Option Value}
    (ho : (hd.heap_39 w.params).lookup 207 = some ⟨oc, od, .func (fnOf name qual params body scope dV kV doc pm an cdv ct), osl⟩)
    (hE : PassesOwn (model Challenge.pw_ij0208_01 w) (A.deeper (envOfC qual scope L fa cd)) (envOfC qual scope L fa cd) E)
    (hA : A.frames = some []) (hroom : A.depth < 410) (hu : A.units < 10) (hh : A.handled = none) (B : Bs w g)
    (F : Fr g L s.heap m) (hm : m (Str.ofString "script") = some (.ref a)) (hl : g.IsList a vs.toArray) (hI : IntsAre vs ns) (hlen : ns.length ≤ 63)
    (N : News g L s.heap [(L + 8, o8), (L + 7, o7), (L + 6, o6), (L + 5, o5), (L + 4, o4), (L + 3, o3), (L + 2, o2), (L + 1, o1)])
    (c8 : o8.data = .cell v8) (c7 : o7.data = .cell v7) (c6 : o6.data = .cell v6) (c5 : o5.data = .cell v5) (c4 : o4.data = .cell v4) (c3 : o3.data = .cell v3) (c2 : o2.data = .cell v2) (c1 : o1.data = .cell v1)
    (hQ : ∀ h' t', (∀ b o, g.get? b = some o → h'.get? b = some o) → Q (.ret (.bool true)) { s with heap := h', toks := t' }) :
    wpAny (model Challenge.pw_ij0208_01 w) (A.deeper (envOfC qual scope L fa cd)) (execs body (envOfC qual scope L fa cd)) Q E s := by
  have nd : Nod [(L + 8, o8), (L + 7, o7), (L + 6, o6), (L + 5, o5), (L + 4, o4), (L + 3, o3), (L + 2, o2), (L + 1, o1)] := by
    unfold Nod; simp
  have pm0 : ((L + 2, o2) :: (L + 1, o1) :: [(L + 8, o8), (L + 7, o7), (L + 6, o6), (L + 5, o5), (L + 4, o4), (L + 3, o3)]).Perm [(L + 8, o8), (L + 7, o7), (L + 6, o6), (L + 5, o5), (L + 4, o4), (L + 3, o3), (L + 2, o2), (L + 1, o1)] := by first | exact segsPerm [[(L + 8, o8)], [(L + 7, o7)], [(L + 6, o6)], [(L + 5, o5)], [(L + 4, o4)], [(L + 3, o3)], [(L + 2, o2)], [(L + 1, o1)]] [6, 7, 0, 1, 2, 3, 4, 5] 8 rfl (by decide) | (simp only [List.cons_append, List.append_assoc]; exact segsPerm [[(L + 8, o8)], [(L + 7, o7)], [(L + 6, o6)], [(L + 5, o5)], [(L + 4, o4)], [(L + 3, o3)], [(L + 2, o2)], [(L + 1, o1)]] [6, 7, 0, 1, 2, 3, 4, 5] 8 rfl (by decide))
  refine lawSize ho hA hroom hu hh B (frPin1 F hm) hl hI hlen (newsPerm N pm0) (nodPerm nd pm0) c2 c1 ?_
  clear N nd pm0 hI hl
  intro n nt dt dr oR oS h1 t1 hn3 hn5 hdr cR cS F1 N1 nd1
  obtain ⟨m1, hm1⟩ : ∃ m1 : Str → Option Value, m1 = fun y => if y = Str.ofString "script" then some (.ref a) else m y := ⟨_, rfl⟩
  rw [← hm1] at F1
  clear hm1 F hm
  have pm1 : ((L + 3, o3) :: (L + 2, oR) :: (L + 1, oS) :: [(L + 8, o8), (L + 7, o7), (L + 6, o6), (L + 5, o5), (L + 4, o4)]).Perm ((L + 2, oR) :: (L + 1, oS) :: [(L + 8, o8), (L + 7, o7), (L + 6, o6), (L + 5, o5), (L + 4, o4), (L + 3, o3)]) := by first | exact segsPerm [[(L + 2, oR)], [(L + 1, oS)], [(L + 8, o8)], [(L + 7, o7)], [(L + 6, o6)], [(L + 5, o5)], [(L + 4, o4)], [(L + 3, o3)]] [7, 0, 1, 2, 3, 4, 5, 6] 8 rfl (by decide) | (simp only [List.cons_append, List.append_assoc]; exact segsPerm [[(L + 2, oR)], [(L + 1, oS)], [(L + 8, o8)], [(L + 7, o7)], [(L + 6, o6)], [(L + 5, o5)], [(L + 4, o4)], [(L + 3, o3)]] [7, 0, 1, 2, 3, 4, 5, 6] 8 rfl (by decide))
  refine lawRows ho hA hroom hu hh B F1 (newsPerm N1 pm1) (nodPerm nd1 pm1) (.head _) (.tail _ (.head _)) c3 cR cS hn5 hdr ?_
  clear N1 nd1 pm1
  intro Ls rows ln oL h2 t2 hrl hrows cL F2 N2 nd2
  have pm2 : ((L + 4, o4) :: ((L + 3, oL) :: (L + 2, oR) :: (L + 1, oS) :: (L + 8, o8) :: (L + 7, o7) :: (L + 6, o6) :: (L + 5, o5) :: (Ls, listOf (rwRefs rows).toArray ln) :: rowObjs rows)).Perm
      ((L + 3, oL) :: (((L + 2, oR) :: (L + 1, oS) :: [(L + 8, o8), (L + 7, o7), (L + 6, o6), (L + 5, o5), (L + 4, o4)]) ++ (Ls, listOf (rwRefs rows).toArray ln) :: rowObjs rows)) := by first | exact segsPerm [[(L + 3, oL)], [(L + 2, oR)], [(L + 1, oS)], [(L + 8, o8)], [(L + 7, o7)], [(L + 6, o6)], [(L + 5, o5)], [(L + 4, o4)], [(Ls, listOf (rwRefs rows).toArray ln)], rowObjs rows] [7, 0, 1, 2, 3, 4, 5, 6, 8, 9] 10 rfl (by decide) | (simp only [List.cons_append, List.append_assoc]; exact segsPerm [[(L + 3, oL)], [(L + 2, oR)], [(L + 1, oS)], [(L + 8, o8)], [(L + 7, o7)], [(L + 6, o6)], [(L + 5, o5)], [(L + 4, o4)], [(Ls, listOf (rwRefs rows).toArray ln)], rowObjs rows] [7, 0, 1, 2, 3, 4, 5, 6, 8, 9] 10 rfl (by decide))
  refine lawOwner ho hA hroom hu hh B F2 (newsPerm N2 pm2) (nodPerm nd2 pm2) (.tail _ (.head _)) (.tail _ (.tail _ (.head _))) c4 cR cS hn5 (by omega) hdr ?_
  clear N2 nd2 pm2
  intro Ow oOw os oO h3 t3 hos hO hOm cO F3 N3 nd3
  have hmR : ∀ r ∈ rows, (r.a, listOf (lvals r.ps).toArray r.n) ∈ rowObjs rows := fun r hr => rowObjs_mem hr
  refine lawSorter ho hA hroom hu hh B F3 N3 nd3 ?_
  clear N3 nd3
  intro x dx d D oD h4 t4 hDm hD F4 N4 nd4
  refine lawAdds ho hE hA hroom hu hh B F4 N4 nd4 (oO := oO) (oLs := oL) (oS := oS) (oOw := oOw) (Ls := Ls) (ln := ln) (by walk_at "MM") (by walk_at "MM") (by walk_at "MM") (by walk_at "MM") (by walk_at "MM") (fun r hr => by have := hmR r hr; walk_at "MM") cO cL cS hDm hD hOm hO hos hn5 hrl hrows ?_
  clear N4 nd4
  intro oD2 nodes ug h5 t5 hD2 hno hnl hns F5 N5 nd5
  have H := hous (dr := dr) (n := n) (by omega)
  have hp : ∀ g, rng n g → ∀ p ∈ pdOf (lsOf dr n) (owOf dr n) g, rng n p := fun g hg p hp => pd_rng H hg hp
  have HN := naOf hp hno (by omega) fun d hd => by have := hns d hd; omega
  have pm5 : ((x, sobj dx) :: (dx, sdict d (.ref D) .none 0 0) :: (D, oD2) :: (famOf nodes ++ ((L + 6, o6) :: (L + 5, o5) :: ((L + 4, oO) :: (Ow, oOw) :: (L + 3, oL) :: (L + 2, oR) :: (L + 1, oS) :: (L + 8, o8) :: (L + 7, o7) :: (Ls, listOf (rwRefs rows).toArray ln) :: rowObjs rows)))).Perm
      ((x, sobj dx) :: (dx, sdict d (.ref D) .none 0 0) :: (D, oD2) :: (famOf nodes ++ ((L + 4, oO) :: (Ow, oOw) :: ((L + 3, oL) :: (L + 2, oR) :: (L + 1, oS) :: (L + 8, o8) :: (L + 7, o7) :: (L + 6, o6) :: (L + 5, o5) :: (Ls, listOf (rwRefs rows).toArray ln) :: rowObjs rows)))) := by first | exact segsPerm [[(x, sobj dx)], [(dx, sdict d (.ref D) .none 0 0)], [(D, oD2)], famOf nodes, [(L + 4, oO)], [(Ow, oOw)], [(L + 3, oL)], [(L + 2, oR)], [(L + 1, oS)], [(L + 8, o8)], [(L + 7, o7)], [(L + 6, o6)], [(L + 5, o5)], [(Ls, listOf (rwRefs rows).toArray ln)], rowObjs rows] [0, 1, 2, 3, 11, 12, 4, 5, 6, 7, 8, 9, 10, 13, 14] 15 rfl (by decide) | (simp only [List.cons_append, List.append_assoc]; exact segsPerm [[(x, sobj dx)], [(dx, sdict d (.ref D) .none 0 0)], [(D, oD2)], famOf nodes, [(L + 4, oO)], [(Ow, oOw)], [(L + 3, oL)], [(L + 2, oR)], [(L + 1, oS)], [(L + 8, o8)], [(L + 7, o7)], [(L + 6, o6)], [(L + 5, o5)], [(Ls, listOf (rwRefs rows).toArray ln)], rowObjs rows] [0, 1, 2, 3, 11, 12, 4, 5, 6, 7, 8, 9, 10, 13, 14] 15 rfl (by decide))
  refine lawRing ho hA hroom hu hh B F5 (newsPerm N5 pm5) (nodPerm nd5 pm5) c6 c5 hDm hD2 hp hno HN ?_
  clear N5 nd5 pm5
  intro b R rd Gv Tk gn tn rn ct1 d2 oT oG h6 t6 hring K cT cG F6 N6 nd6
  have hl10 : ∀ r ∈ rows, r.ps.length ≤ 10 := fun r hr => by
    obtain ⟨j, hj⟩ := List.getElem?_of_mem hr
    have := congrArg List.length (hrows j r hj)
    rw [List.length_map] at this
    rw [this]; exact row_len hn5 j
  obtain ⟨m6, hm6⟩ : ∃ m6 : Str → Option Value, m6 = fun y => if y = Str.ofString "copies" then some (.int 1 ct1) else if y = Str.ofString "ring" then some (.bool b) else if y = Str.ofString "sorter" then some (.ref x) else if y = Str.ofString "g" then ug else m1 y := ⟨_, rfl⟩
  have k1 : m6 (Str.ofString "copies") = some (.int 1 ct1) := by rw [hm6]; rfl
  have k2 : m6 (Str.ofString "ring") = some (.bool b) := by rw [hm6]; rfl
  have k3 : m6 (Str.ofString "sorter") = some (.ref x) := by rw [hm6]; rfl
  rw [← hm6] at F6
  clear hm6
  have pm6 : ((L + 7, o7) :: (Gv, listOf (ivals []).toArray gn) :: (Tk, listOf (lvals []).toArray tn) :: (x, sobj dx) :: (dx, sdict d2 (.ref D) (.ref R) 0 0) :: (D, oD2) :: (R, listOf (ivals rd).toArray rn) :: (famOf nodes ++ (L + 8, o8) :: ((L + 6, oT) :: (L + 5, oG) :: (L + 4, oO) :: (Ow, oOw) :: (L + 3, oL) :: (L + 2, oR) :: (L + 1, oS) :: (Ls, listOf (rwRefs rows).toArray ln) :: rowObjs rows))).Perm
      ((Gv, listOf #[] gn) :: (Tk, listOf #[] tn) :: (x, sobj dx) :: (dx, sdict d2 (.ref D) (.ref R) 0 0) :: (D, oD2) :: (R, listOf (ivals rd).toArray rn) :: (famOf nodes ++ ((L + 6, oT) :: (L + 5, oG) :: ((L + 4, oO) :: (Ow, oOw) :: (L + 3, oL) :: (L + 2, oR) :: (L + 1, oS) :: (L + 8, o8) :: (L + 7, o7) :: (Ls, listOf (rwRefs rows).toArray ln) :: rowObjs rows)))) := by
    rw [show ((ivals ([] : List (Int × Nat))).toArray) = #[] from rfl, show ((lvals ([] : List (Nat × Nat))).toArray) = #[] from rfl]; walk_at "PERM"
  have e := ho.symm.trans (rfl : (hd.heap_39 w.params).lookup 207 = some _)
  cases e
  refine lawMain (rfl : (hd.heap_39 w.params).lookup 207 = some _) rfl hE hA hroom hu hh B F6 (newsPerm N6 pm6) (nodPerm nd6 pm6) (Ls := Ls) (ln := ln) (oT := oT) (oG := oG) (oLs := oL) (oS := oS) (S0 := (L + 6, oT) :: (L + 5, oG) :: (L + 4, oO) :: (Ow, oOw) :: (L + 3, oL) :: (L + 2, oR) :: (L + 1, oS) :: (Ls, listOf (rwRefs rows).toArray ln) :: rowObjs rows)
    ⟨[], rd, [], gn, tn, ct1, rn, 0, d2, nodes, o7, oD2, v7, rfl, c7, k3, k2, k1, rfl, K, HN, hD2⟩ (by walk_at "MM") (by walk_at "MM") (by walk_at "MM") (by walk_at "MM") (by walk_at "MM") (fun r hr => by have := hmR r hr; walk_at "MM") c8 cT cG cL cS hn5 (by omega) hrl hrows hl10 hDm H hring hQ

end
section
local macro_rules | `(tactic| walk_at "no goal 0") => `(tactic| fail)
local macro_rules | `(tactic| walk_at "no goal 1") => `(tactic| fail)
theorem reset_FI : True := by
  w_top off
  trivial
theorem lawHolds : PySem.Challenge.rw_ij0208_01.Holds := by
  w_on
  refine holds_law wellSaid fun said => ?_
  refine holds_open (q := hd.view_39) (loose := [Str.ofString "filterfalse", Str.ofString "_NodeInfo"]) (Xt := fun s => xlAt hd.view_39 [] s && recOk (RowW.records (OpenRow.toRowW Challenge.rw_ij0208_01.row)) s) (XP := XL hd.view_39 [])
    (Yf := Hook.obs (kHook hd.heap_39 [2,3,15,17,18,20,21,29,30,32,33,35,36,37,39,40,42,43,44,46,47,49,50,51,53,54,55,56,59,61,62,64,65,73,74,76,77,79,80,81,83,84,85,86,87,90,97,98,99,100,110,111,113,114,116,117,118,120,121,123,124,125,127,128,130,131,132,135,136,137,139,140,142,143,144,146,147,149,150,151,153,154,156,157,158,160,161,163,164,165,167,168,170,171,172,174,175,177,178,179,180,181,182,183,186,189,190,191,194,195,196,198,199,201,202,203,206,207] (fun _ => by kernel_rfl)))
    (Ya := Hook.val (kHook hd.heap_39 [2,3,15,17,18,20,21,29,30,32,33,35,36,37,39,40,42,43,44,46,47,49,50,51,53,54,55,56,59,61,62,64,65,73,74,76,77,79,80,81,83,84,85,86,87,90,97,98,99,100,110,111,113,114,116,117,118,120,121,123,124,125,127,128,130,131,132,135,136,137,139,140,142,143,144,146,147,149,150,151,153,154,156,157,158,160,161,163,164,165,167,168,170,171,172,174,175,177,178,179,180,181,182,183,186,189,190,191,194,195,196,198,199,201,202,203,206,207] (fun _ => by kernel_rfl)))
    (N := 3172) ?hl (Hook.of _) (Hook.keeps _) (fun s e => xl_of s (Bool.and_eq_true_iff.mp e).1) XL.keeps (by rfl) (by rfl) (by rfl) (fun s e => recFacts_of (Bool.and_eq_true_iff.mp e).2) (by rfl) (by first | assumption | decide +kernel) (by decide +kernel) ⟨rfl, rfl, rfl, rfl, rfl, by decide +kernel⟩ ?hw ?hc
  case hl => exact topRun
  case hw => w_witness2
  case hc =>
    intro w s₀ s₁ mg mb G Y fa o pm cd doc dV kV hof hdf hcd hDf hmg hg args vals as hpre hlay hrd hwl hlo
    have KX := kIn_of Y
    refine Ground.open G ?_
    intro T B D TE TW
    clear hmg
    wrow_args hpre hlay hrd hwl hlo
    refine enter_call ?_
    w_top on
    refine codeAny_mono ?_ (fun _ _ g => GoodW.toG g)
    have K0 := below_caller (Top.heap T)
    have TA := at_of_top T
    w_call any hof hdf hcd hDf T F
    rename IntsAre _ _ => hI
    rename Fr _ _ _ _ => F
    rename News _ _ _ _ => N
    refine lawAll (rfl : (hd.heap_39 _).lookup 207 = some _) ?_ rfl (by decide +kernel) (by decide +kernel) rfl ⟨KX, _, _, topRead_of T⟩ F (by rfl) (by assumption) hI (by omega) N (by assumption) (by assumption) (by assumption) (by assumption) (by assumption) (by assumption) (by assumption) (by assumption) ?_
    · passes_own
    · intro h' t' hk
      refine ⟨.inl ⟨_, .bool true, [], rfl, ?_, .bool true, ?_, ?_⟩, ?_, rfl, ?_⟩
      · exact raisesW_false (by wrow_none_raised)
      · exact postW_of (by wrow_shape) (by wtm_val) (by first | done | rfl | w_fin)
      · exact fun _ => ⟨List.nodup_nil, fun _ h => nomatch h⟩
      · exact hk
      · assumption

end
end Mine
theorem PySem.Challenge.cw_ij0208_01_holds : PySem.Challenge.rw_ij0208_01.Holds := by
  exact Mine.lawHolds
