import PyProof.Rows.All
import Wide.All
import OpenK.AllK
import Wide.FinOn
import Lean
import PySem.Challenge.RW_un0049_03
open PySem PySem.Calls PySem.Spec PyProof.Rows PySem.W
set_option Elab.async false
set_option maxRecDepth 100000
set_option maxHeartbeats 8000000
set_option autoImplicit false
set_option linter.unusedVariables false
set_option linter.unusedSimpArgs false
set_option linter.unusedSectionVars false
set_option genSizeOf false
set_option genInjectivity false
set_option bootstrap.genMatcherCode false
set_option compiler.extract_closed false
universe u
namespace Mine
noncomputable abbrev aa:=@List.getElem?_eq_some_iff
noncomputable abbrev ac:=@List.mem_of_getElem?
noncomputable abbrev ae:=@List.getElem?_eq_getElem
noncomputable abbrev ah:=@List.prefix_refl
noncomputable abbrev ai:=@List.prefix_append
noncomputable abbrev ak:=@List.getElem?_set_ne
noncomputable abbrev aj:=@Option.some.inj
noncomputable abbrev av:=@Heap.get?_push_of_some
noncomputable abbrev ar:=@List.mem_cons_of_mem
noncomputable abbrev az:=@List.getElem?_append_right
noncomputable abbrev aB:=@List.getElem?_map
noncomputable abbrev aE:=@Nat.eq_of_beq_eq_true
noncomputable abbrev aF:=@Nat.ble_eq_true_of_le
noncomputable abbrev aG:=@List.getD_eq_getElem?_getD
noncomputable abbrev aD:=@List.length_map
noncomputable abbrev aH:=@List.getElem?_set_self
noncomputable abbrev aL:=@List.getElem?_append_left
noncomputable abbrev aR:=@List.append_assoc
noncomputable abbrev aU:=@List.length_append
noncomputable abbrev aT:=@List.mem_cons_self
noncomputable abbrev aY:=@Heap.get?_push_size
noncomputable abbrev aK:=@List.getElem?_eq_none_iff
noncomputable abbrev aN:=@Nat.lt_of_lt_of_le
noncomputable abbrev bn:=@List.mem_append
noncomputable abbrev aM:=@Nat.lt_irrefl
noncomputable abbrev bh:=@List.not_mem_nil
noncomputable abbrev bu:=@Nat.lt_of_succ_lt_succ
noncomputable abbrev aZ:=@Nat.le_add_right
noncomputable abbrev bq:=@Heap.SameBut.update
noncomputable abbrev bg:=@List.map_cons
noncomputable abbrev cO:=@List.length_take
noncomputable abbrev vg:=@List.length_replicate
noncomputable abbrev aO:=@Nat.le_of_ble_eq_true
noncomputable abbrev bL:=@List.length_cons
noncomputable abbrev dI:=@Nat.lt_of_le_of_lt
noncomputable abbrev hZ:=@List.getElem?_cons_succ
noncomputable abbrev bK:=@Nat.not_lt_zero
noncomputable abbrev bX:=@List.getElem?_replicate
noncomputable def dR (i:Nat):Stmt:=(PySem.Challenge.pw_un0049_03.main.body[i]?).getD (.Pass ⟨0,0,0,0⟩)
noncomputable def dO (s:Stmt):Arguments:=match s with
 |.FunctionDef _ a _ _ _ _ _ _ _ _=>a
 |_=>{posonlyargs:=[],args:=[],vararg:=none,kwonlyargs:=[],kw_defaults:=[],kwarg:=none,defaults:=[]}
noncomputable def dG (s:Stmt):List Stmt:=match s with
 |.FunctionDef _ _ b _ _ _ _ _ _ _=>b
 |.ClassDef _ _ _ b _ _ _ _ _ _ _=>b
 |_=>[]
noncomputable def cG (s:Stmt):Scope:=match s with
 |.FunctionDef _ _ _ _ _ _ sc _ _ _=>sc
 |_=>{kind:=.function,names:=[],isGenerator:=false,isCoroutine:=false}
noncomputable def cj (i j:Nat):Stmt:=((dG (dR i))[j]?).getD (.Pass ⟨0,0,0,0⟩)
noncomputable def K03 (P:Params):Frag:=[
 (2,{cls:=Value.none,data:=Data.dict #[]}),
 (3,{cls:=Value.type "dict",data:=Data.dict #[{hash:=PyData.keyHash P (Str.ofString "__name__"),key:=Value.str (Str.ofString "__name__") 165,val:=Value.str (Str.ofString "law_un0049_03") 497},{hash:=PyData.keyHash P (Str.ofString "__doc__"),key:=Value.str (Str.ofString "__doc__") 166,val:=Value.none},{hash:=PyData.keyHash P (Str.ofString "__package__"),key:=Value.str (Str.ofString "__package__") 167,val:=Value.none},{hash:=PyData.keyHash P (Str.ofString "__loader__"),key:=Value.str (Str.ofString "__loader__") 168,val:=Value.builtin "__main__.__loader__#opaque"},{hash:=PyData.keyHash P (Str.ofString "__spec__"),key:=Value.str (Str.ofString "__spec__") 169,val:=Value.none},{hash:=PyData.keyHash P (Str.ofString "__annotations__"),key:=Value.str (Str.ofString "__annotations__") 170,val:=Value.ref 6},{hash:=PyData.keyHash P (Str.ofString "__builtins__"),key:=Value.str (Str.ofString "__builtins__") 171,val:=Value.ref 4},{hash:=PyData.keyHash P (Str.ofString "__file__"),key:=Value.str (Str.ofString "__file__") 173,val:=Value.str (Str.ofString "/claim/cut.py") 172},{hash:=PyData.keyHash P (Str.ofString "__cached__"),key:=Value.str (Str.ofString "__cached__") 174,val:=Value.none},{hash:=PyData.keyHash P (Str.ofString "_wall"),key:=Value.str (Str.ofString "_wall") 193,val:=Value.ref 21},{hash:=PyData.keyHash P (Str.ofString "_NODE_OUT"),key:=Value.str (Str.ofString "_NODE_OUT") 198,val:=Value.int (-1) 197},{hash:=PyData.keyHash P (Str.ofString "_NODE_DONE"),key:=Value.str (Str.ofString "_NODE_DONE") 201,val:=Value.int (-2) 200},{hash:=PyData.keyHash P (Str.ofString "_NodeInfo"),key:=Value.str (Str.ofString "_NodeInfo") 238,val:=Value.ref 40},{hash:=PyData.keyHash P (Str.ofString "CycleError"),key:=Value.str (Str.ofString "CycleError") 256,val:=Value.ref 55},{hash:=PyData.keyHash P (Str.ofString "TopologicalSorter"),key:=Value.str (Str.ofString "TopologicalSorter") 375,val:=Value.ref 137},{hash:=PyData.keyHash P (Str.ofString "S_IFMT"),key:=Value.str (Str.ofString "S_IFMT") 384,val:=Value.ref 148},{hash:=PyData.keyHash P (Str.ofString "S_IFDIR"),key:=Value.str (Str.ofString "S_IFDIR") 386,val:=Value.int 16384 385},{hash:=PyData.keyHash P (Str.ofString "S_IFCHR"),key:=Value.str (Str.ofString "S_IFCHR") 388,val:=Value.int 8192 387},{hash:=PyData.keyHash P (Str.ofString "S_IFBLK"),key:=Value.str (Str.ofString "S_IFBLK") 390,val:=Value.int 24576 389},{hash:=PyData.keyHash P (Str.ofString "S_IFREG"),key:=Value.str (Str.ofString "S_IFREG") 392,val:=Value.int 32768 391},{hash:=PyData.keyHash P (Str.ofString "S_IFIFO"),key:=Value.str (Str.ofString "S_IFIFO") 394,val:=Value.int 4096 393},{hash:=PyData.keyHash P (Str.ofString "S_IFLNK"),key:=Value.str (Str.ofString "S_IFLNK") 396,val:=Value.int 40960 395},{hash:=PyData.keyHash P (Str.ofString "S_IFSOCK"),key:=Value.str (Str.ofString "S_IFSOCK") 398,val:=Value.int 49152 397},{hash:=PyData.keyHash P (Str.ofString "S_ISUID"),key:=Value.str (Str.ofString "S_ISUID") 400,val:=Value.int 2048 399},{hash:=PyData.keyHash P (Str.ofString "S_ISGID"),key:=Value.str (Str.ofString "S_ISGID") 402,val:=Value.int 1024 401},{hash:=PyData.keyHash P (Str.ofString "S_ISVTX"),key:=Value.str (Str.ofString "S_ISVTX") 404,val:=Value.int 512 403},{hash:=PyData.keyHash P (Str.ofString "S_IRUSR"),key:=Value.str (Str.ofString "S_IRUSR") 406,val:=Value.int 256 405},{hash:=PyData.keyHash P (Str.ofString "S_IWUSR"),key:=Value.str (Str.ofString "S_IWUSR") 408,val:=Value.int 128 407},{hash:=PyData.keyHash P (Str.ofString "S_IXUSR"),key:=Value.str (Str.ofString "S_IXUSR") 410,val:=Value.int 64 409},{hash:=PyData.keyHash P (Str.ofString "S_IRGRP"),key:=Value.str (Str.ofString "S_IRGRP") 412,val:=Value.int 32 411},{hash:=PyData.keyHash P (Str.ofString "S_IWGRP"),key:=Value.str (Str.ofString "S_IWGRP") 414,val:=Value.int 16 413},{hash:=PyData.keyHash P (Str.ofString "S_IXGRP"),key:=Value.str (Str.ofString "S_IXGRP") 416,val:=Value.int 8 415},{hash:=PyData.keyHash P (Str.ofString "S_IROTH"),key:=Value.str (Str.ofString "S_IROTH") 418,val:=Value.int 4 417},{hash:=PyData.keyHash P (Str.ofString "S_IWOTH"),key:=Value.str (Str.ofString "S_IWOTH") 420,val:=Value.int 2 419},{hash:=PyData.keyHash P (Str.ofString "S_IXOTH"),key:=Value.str (Str.ofString "S_IXOTH") 422,val:=Value.int 1 421},{hash:=PyData.keyHash P (Str.ofString "_filemode_table"),key:=Value.str (Str.ofString "_filemode_table") 448,val:=Value.ref 181},{hash:=PyData.keyHash P (Str.ofString "filemode"),key:=Value.str (Str.ofString "filemode") 460,val:=Value.ref 188},{hash:=PyData.keyHash P (Str.ofString "_MAX_STRING_SIZE"),key:=Value.str (Str.ofString "_MAX_STRING_SIZE") 464,val:=Value.int 40 463},{hash:=PyData.keyHash P (Str.ofString "_MOVE_COST"),key:=Value.str (Str.ofString "_MOVE_COST") 466,val:=Value.int 2 465},{hash:=PyData.keyHash P (Str.ofString "_CASE_COST"),key:=Value.str (Str.ofString "_CASE_COST") 468,val:=Value.int 1 467},{hash:=PyData.keyHash P (Str.ofString "_substitution_cost"),key:=Value.str (Str.ofString "_substitution_cost") 476,val:=Value.ref 195},{hash:=PyData.keyHash P (Str.ofString "_levenshtein_distance"),key:=Value.str (Str.ofString "_levenshtein_distance") 496,val:=Value.ref 202},{hash:=PyData.keyHash P (Str.ofString "_law_sorter"),key:=Value.str (Str.ofString "_law_sorter") 507,val:=Value.ref 209},{hash:=PyData.keyHash P (Str.ofString "_law_order"),key:=Value.str (Str.ofString "_law_order") 519,val:=Value.ref 216},{hash:=PyData.keyHash P (Str.ofString "_law_let"),key:=Value.str (Str.ofString "_law_let") 529,val:=Value.ref 223},{hash:=PyData.keyHash P (Str.ofString "_law_evacuated"),key:=Value.str (Str.ofString "_law_evacuated") 535,val:=Value.ref 228},{hash:=PyData.keyHash P (Str.ofString "law"),key:=Value.str (Str.ofString "law") 541,val:=Value.ref 233}] 47}),
 (15,{cls:=Value.type "tuple",data:=Data.seq #[]}),
 (17,{cls:=Value.type "tuple",data:=Data.seq #[Value.str (Str.ofString "k") 190]}),
 (18,{cls:=Value.type "tuple",data:=Data.seq #[]}),
 (20,{cls:=Value.type "code",data:=Data.fields #[Value.str (Str.ofString "_wall") 187,Value.str (Str.ofString "_wall") 188,Value.str (Str.ofString "/claim/cut.py") 189,Value.int 1 0,Value.int 1 0,Value.int 0 0,Value.int 0 0,Value.int 3 0,Value.ref 15,Value.bool true,Value.int 181 0,Value.ref 16,Value.none,Value.ref 17,Value.ref 18,Value.ref 19,Value.int 191 0,Value.int 1 0,Value.str (Str.ofString "/claim/cut.py") 192]}),
 (21,{cls:=Value.type "function",data:=Data.func {name:=Str.ofString "_wall",qualname:=Str.ofString "_wall",params:=dO (dR 0),body:=FuncBody.stmts (dG (dR 0)),scope:=cG (dR 0),globals:=3,closure:=[],defaults:=Value.none,kwdefaults:=Value.none,pyModule:=Value.str (Str.ofString "__main__") 164,code:=Value.ref 20}}),
 (29,{cls:=Value.type "tuple",data:=Data.seq #[Value.str (Str.ofString "node") 214,Value.str (Str.ofString "npredecessors") 215,Value.str (Str.ofString "successors") 216]}),
 (30,{cls:=Value.type "tuple",data:=Data.seq #[]}),
 (32,{cls:=Value.type "tuple",data:=Data.seq #[Value.str (Str.ofString "self") 221,Value.str (Str.ofString "node") 222]}),
 (33,{cls:=Value.type "tuple",data:=Data.seq #[]}),
 (35,{cls:=Value.type "code",data:=Data.fields #[Value.str (Str.ofString "__init__") 218,Value.str (Str.ofString "_NodeInfo.__init__") 219,Value.str (Str.ofString "/claim/cut.py") 220,Value.int 10 0,Value.int 2 0,Value.int 0 0,Value.int 0 0,Value.int 3 0,Value.ref 30,Value.bool true,Value.int 181 0,Value.ref 31,Value.none,Value.ref 32,Value.ref 33,Value.ref 34,Value.int 223 0,Value.int 10 0,Value.str (Str.ofString "/claim/cut.py") 224]}),
 (36,{cls:=Value.type "function",data:=Data.func {name:=Str.ofString "__init__",qualname:=Str.ofString "_NodeInfo.__init__",params:=dO (cj 4 1),body:=FuncBody.stmts (dG (cj 4 1)),scope:=cG (cj 4 1),globals:=3,closure:=[],defaults:=Value.none,kwdefaults:=Value.none,pyModule:=Value.str (Str.ofString "cpy313.graphlib") 194,code:=Value.ref 35}}),
 (37,{cls:=Value.type "tuple",data:=Data.seq #[Value.str (Str.ofString "node") 226,Value.str (Str.ofString "npredecessors") 227,Value.str (Str.ofString "successors") 228]}),
 (39,{cls:=Value.type "dict",data:=Data.dict #[{hash:=PyData.keyHash P (Str.ofString "__module__"),key:=Value.str (Str.ofString "__module__") 209,val:=Value.str (Str.ofString "cpy313.graphlib") 194},{hash:=PyData.keyHash P (Str.ofString "__firstlineno__"),key:=Value.str (Str.ofString "__firstlineno__") 213,val:=Value.int 7 212},{hash:=PyData.keyHash P (Str.ofString "__slots__"),key:=Value.str (Str.ofString "__slots__") 217,val:=Value.ref 29},{hash:=PyData.keyHash P (Str.ofString "__init__"),key:=Value.str (Str.ofString "__init__") 225,val:=Value.ref 36},{hash:=PyData.keyHash P (Str.ofString "__static_attributes__"),key:=Value.str (Str.ofString "__static_attributes__") 229,val:=Value.ref 37},{hash:=PyData.keyHash P (Str.ofString "node"),key:=Value.str (Str.ofString "node") 231,val:=Value.ref 41},{hash:=PyData.keyHash P (Str.ofString "npredecessors"),key:=Value.str (Str.ofString "npredecessors") 233,val:=Value.ref 42},{hash:=PyData.keyHash P (Str.ofString "successors"),key:=Value.str (Str.ofString "successors") 235,val:=Value.ref 43},{hash:=PyData.keyHash P (Str.ofString "__doc__"),key:=Value.str (Str.ofString "__doc__") 236,val:=Value.none}] 5}),
 (40,{cls:=Value.type "type",data:=Data.cls {name:=Str.ofString "_NodeInfo",bases:=[Value.type "object"],mro:=[Value.ref 40,Value.type "object"],ns:=39,qualname:=Str.ofString "_NodeInfo",hasDict:=false,slotNames:=[Str.ofString "node",Str.ofString "npredecessors",Str.ofString "successors"]},slots:=#[none,none,some (Value.str (Str.ofString "_NodeInfo") 202),some (Value.str (Str.ofString "_NodeInfo") 210),some (Value.builtin "object.__new__"),some (Value.bool false)]}),
 (41,{cls:=Value.type "member_descriptor",data:=Data.fields #[Value.str (Str.ofString "node") 230,Value.ref 40,Value.builtin "proto.slot",Value.builtin "proto.slot#set",Value.int 2 0]}),
 (42,{cls:=Value.type "member_descriptor",data:=Data.fields #[Value.str (Str.ofString "npredecessors") 232,Value.ref 40,Value.builtin "proto.slot",Value.builtin "proto.slot#set",Value.int 1 0]}),
 (43,{cls:=Value.type "member_descriptor",data:=Data.fields #[Value.str (Str.ofString "successors") 234,Value.ref 40,Value.builtin "proto.slot",Value.builtin "proto.slot#set",Value.int 0 0]}),
 (46,{cls:=Value.type "tuple",data:=Data.seq #[Value.type "ValueError"]}),
 (53,{cls:=Value.type "tuple",data:=Data.seq #[]}),
 (54,{cls:=Value.type "dict",data:=Data.dict #[{hash:=PyData.keyHash P (Str.ofString "__module__"),key:=Value.str (Str.ofString "__module__") 246,val:=Value.str (Str.ofString "cpy313.graphlib") 194},{hash:=PyData.keyHash P (Str.ofString "__firstlineno__"),key:=Value.str (Str.ofString "__firstlineno__") 250,val:=Value.int 14 249},{hash:=PyData.keyHash P (Str.ofString "__static_attributes__"),key:=Value.str (Str.ofString "__static_attributes__") 251,val:=Value.ref 53},{hash:=PyData.keyHash P (Str.ofString "__weakref__"),key:=Value.str (Str.ofString "__weakref__") 253,val:=Value.ref 56},{hash:=PyData.keyHash P (Str.ofString "__doc__"),key:=Value.str (Str.ofString "__doc__") 254,val:=Value.none}] 3}),
 (55,{cls:=Value.type "type",data:=Data.cls {name:=Str.ofString "CycleError",bases:=[Value.type "ValueError"],mro:=[Value.ref 55,Value.type "ValueError",Value.type "Exception",Value.type "BaseException",Value.type "object"],ns:=54,qualname:=Str.ofString "CycleError"},slots:=#[some (Value.ref 46),none,some (Value.str (Str.ofString "CycleError") 239),some (Value.str (Str.ofString "CycleError") 247),some (Value.builtin "ValueError.__new__"),some (Value.bool true)]}),
 (56,{cls:=Value.type "getset_descriptor",data:=Data.fields #[Value.str (Str.ofString "__weakref__") 252,Value.ref 55,Value.builtin "ExceptionGroup.__weakref__",Value.none]}),
 (66,{cls:=Value.type "tuple",data:=Data.seq #[Value.none]}),
 (67,{cls:=Value.type "tuple",data:=Data.seq #[]}),
 (69,{cls:=Value.type "tuple",data:=Data.seq #[Value.str (Str.ofString "self") 272,Value.str (Str.ofString "graph") 273,Value.str (Str.ofString "node") 274,Value.str (Str.ofString "predecessors") 275]}),
 (70,{cls:=Value.type "tuple",data:=Data.seq #[]}),
 (72,{cls:=Value.type "code",data:=Data.fields #[Value.str (Str.ofString "__init__") 269,Value.str (Str.ofString "TopologicalSorter.__init__") 270,Value.str (Str.ofString "/claim/cut.py") 271,Value.int 18 0,Value.int 2 0,Value.int 0 0,Value.int 0 0,Value.int 3 0,Value.ref 67,Value.bool true,Value.int 181 0,Value.ref 68,Value.none,Value.ref 69,Value.ref 70,Value.ref 71,Value.int 276 0,Value.int 18 0,Value.str (Str.ofString "/claim/cut.py") 277]}),
 (73,{cls:=Value.type "function",data:=Data.func {name:=Str.ofString "__init__",qualname:=Str.ofString "TopologicalSorter.__init__",params:=dO (cj 6 0),body:=FuncBody.stmts (dG (cj 6 0)),scope:=cG (cj 6 0),globals:=3,closure:=[],defaults:=Value.ref 66,kwdefaults:=Value.none,pyModule:=Value.str (Str.ofString "cpy313.graphlib") 194,code:=Value.ref 72}}),
 (74,{cls:=Value.type "tuple",data:=Data.seq #[]}),
 (76,{cls:=Value.type "tuple",data:=Data.seq #[Value.str (Str.ofString "self") 282,Value.str (Str.ofString "node") 283,Value.str (Str.ofString "result") 284]}),
 (77,{cls:=Value.type "tuple",data:=Data.seq #[]}),
 (79,{cls:=Value.type "code",data:=Data.fields #[Value.str (Str.ofString "_get_nodeinfo") 279,Value.str (Str.ofString "TopologicalSorter._get_nodeinfo") 280,Value.str (Str.ofString "/claim/cut.py") 281,Value.int 27 0,Value.int 2 0,Value.int 0 0,Value.int 0 0,Value.int 3 0,Value.ref 74,Value.bool true,Value.int 181 0,Value.ref 75,Value.none,Value.ref 76,Value.ref 77,Value.ref 78,Value.int 285 0,Value.int 27 0,Value.str (Str.ofString "/claim/cut.py") 286]}),
 (80,{cls:=Value.type "function",data:=Data.func {name:=Str.ofString "_get_nodeinfo",qualname:=Str.ofString "TopologicalSorter._get_nodeinfo",params:=dO (cj 6 1),body:=FuncBody.stmts (dG (cj 6 1)),scope:=cG (cj 6 1),globals:=3,closure:=[],defaults:=Value.none,kwdefaults:=Value.none,pyModule:=Value.str (Str.ofString "cpy313.graphlib") 194,code:=Value.ref 79}}),
 (81,{cls:=Value.type "tuple",data:=Data.seq #[]}),
 (83,{cls:=Value.type "tuple",data:=Data.seq #[Value.str (Str.ofString "self") 291,Value.str (Str.ofString "node") 292,Value.str (Str.ofString "predecessors") 293,Value.str (Str.ofString "nodeinfo") 294,Value.str (Str.ofString "pred") 295,Value.str (Str.ofString "pred_info") 296]}),
 (84,{cls:=Value.type "tuple",data:=Data.seq #[]}),
 (86,{cls:=Value.type "code",data:=Data.fields #[Value.str (Str.ofString "add") 288,Value.str (Str.ofString "TopologicalSorter.add") 289,Value.str (Str.ofString "/claim/cut.py") 290,Value.int 32 0,Value.int 2 0,Value.int 0 0,Value.int 0 0,Value.int 7 0,Value.ref 81,Value.bool true,Value.int 181 0,Value.ref 82,Value.none,Value.ref 83,Value.ref 84,Value.ref 85,Value.int 297 0,Value.int 32 0,Value.str (Str.ofString "/claim/cut.py") 298]}),
 (87,{cls:=Value.type "function",data:=Data.func {name:=Str.ofString "add",qualname:=Str.ofString "TopologicalSorter.add",params:=dO (cj 6 2),body:=FuncBody.stmts (dG (cj 6 2)),scope:=cG (cj 6 2),globals:=3,closure:=[],defaults:=Value.none,kwdefaults:=Value.none,pyModule:=Value.str (Str.ofString "cpy313.graphlib") 194,code:=Value.ref 86}}),
 (88,{cls:=Value.type "tuple",data:=Data.seq #[]}),
 (91,{cls:=Value.type "code",data:=Data.fields #[Value.str (Str.ofString "prepare") 300,Value.str (Str.ofString "TopologicalSorter.prepare") 301,Value.str (Str.ofString "/claim/cut.py") 302,Value.int 41 0,Value.int 1 0,Value.int 0 0,Value.int 0 0,Value.int 3 0,Value.ref 88,Value.bool true,Value.int 181 0,Value.ref 89,Value.none,Value.none,Value.none,Value.ref 90,Value.int 303 0,Value.int 41 0,Value.str (Str.ofString "/claim/cut.py") 304]}),
 (92,{cls:=Value.type "function",data:=Data.func {name:=Str.ofString "prepare",qualname:=Str.ofString "TopologicalSorter.prepare",params:=dO (cj 6 3),body:=FuncBody.stmts (dG (cj 6 3)),scope:=cG (cj 6 3),globals:=3,closure:=[],defaults:=Value.none,kwdefaults:=Value.none,pyModule:=Value.str (Str.ofString "cpy313.graphlib") 194,code:=Value.ref 91}}),
 (93,{cls:=Value.type "tuple",data:=Data.seq #[]}),
 (95,{cls:=Value.type "tuple",data:=Data.seq #[Value.str (Str.ofString "self") 309,Value.str (Str.ofString "result") 310,Value.str (Str.ofString "n2i") 311,Value.str (Str.ofString "node") 312]}),
 (96,{cls:=Value.type "tuple",data:=Data.seq #[]}),
 (98,{cls:=Value.type "code",data:=Data.fields #[Value.str (Str.ofString "get_ready") 306,Value.str (Str.ofString "TopologicalSorter.get_ready") 307,Value.str (Str.ofString "/claim/cut.py") 308,Value.int 49 0,Value.int 1 0,Value.int 0 0,Value.int 0 0,Value.int 3 0,Value.ref 93,Value.bool true,Value.int 181 0,Value.ref 94,Value.none,Value.ref 95,Value.ref 96,Value.ref 97,Value.int 313 0,Value.int 49 0,Value.str (Str.ofString "/claim/cut.py") 314]}),
 (99,{cls:=Value.type "function",data:=Data.func {name:=Str.ofString "get_ready",qualname:=Str.ofString "TopologicalSorter.get_ready",params:=dO (cj 6 4),body:=FuncBody.stmts (dG (cj 6 4)),scope:=cG (cj 6 4),globals:=3,closure:=[],defaults:=Value.none,kwdefaults:=Value.none,pyModule:=Value.str (Str.ofString "cpy313.graphlib") 194,code:=Value.ref 98}}),
 (100,{cls:=Value.type "tuple",data:=Data.seq #[]}),
 (102,{cls:=Value.type "tuple",data:=Data.seq #[Value.str (Str.ofString "self") 319]}),
 (103,{cls:=Value.type "tuple",data:=Data.seq #[]}),
 (105,{cls:=Value.type "code",data:=Data.fields #[Value.str (Str.ofString "is_active") 316,Value.str (Str.ofString "TopologicalSorter.is_active") 317,Value.str (Str.ofString "/claim/cut.py") 318,Value.int 60 0,Value.int 1 0,Value.int 0 0,Value.int 0 0,Value.int 3 0,Value.ref 100,Value.bool true,Value.int 181 0,Value.ref 101,Value.none,Value.ref 102,Value.ref 103,Value.ref 104,Value.int 320 0,Value.int 60 0,Value.str (Str.ofString "/claim/cut.py") 321]}),
 (106,{cls:=Value.type "function",data:=Data.func {name:=Str.ofString "is_active",qualname:=Str.ofString "TopologicalSorter.is_active",params:=dO (cj 6 5),body:=FuncBody.stmts (dG (cj 6 5)),scope:=cG (cj 6 5),globals:=3,closure:=[],defaults:=Value.none,kwdefaults:=Value.none,pyModule:=Value.str (Str.ofString "cpy313.graphlib") 194,code:=Value.ref 105}}),
 (107,{cls:=Value.type "tuple",data:=Data.seq #[]}),
 (109,{cls:=Value.type "tuple",data:=Data.seq #[Value.str (Str.ofString "self") 326]}),
 (110,{cls:=Value.type "tuple",data:=Data.seq #[]}),
 (112,{cls:=Value.type "code",data:=Data.fields #[Value.str (Str.ofString "__bool__") 323,Value.str (Str.ofString "TopologicalSorter.__bool__") 324,Value.str (Str.ofString "/claim/cut.py") 325,Value.int 65 0,Value.int 1 0,Value.int 0 0,Value.int 0 0,Value.int 3 0,Value.ref 107,Value.bool true,Value.int 181 0,Value.ref 108,Value.none,Value.ref 109,Value.ref 110,Value.ref 111,Value.int 327 0,Value.int 65 0,Value.str (Str.ofString "/claim/cut.py") 328]}),
 (113,{cls:=Value.type "function",data:=Data.func {name:=Str.ofString "__bool__",qualname:=Str.ofString "TopologicalSorter.__bool__",params:=dO (cj 6 6),body:=FuncBody.stmts (dG (cj 6 6)),scope:=cG (cj 6 6),globals:=3,closure:=[],defaults:=Value.none,kwdefaults:=Value.none,pyModule:=Value.str (Str.ofString "cpy313.graphlib") 194,code:=Value.ref 112}}),
 (114,{cls:=Value.type "tuple",data:=Data.seq #[]}),
 (116,{cls:=Value.type "tuple",data:=Data.seq #[Value.str (Str.ofString "self") 333,Value.str (Str.ofString "nodes") 334,Value.str (Str.ofString "n2i") 335,Value.str (Str.ofString "node") 336,Value.str (Str.ofString "nodeinfo") 337,Value.str (Str.ofString "stat") 338,Value.str (Str.ofString "successor") 339,Value.str (Str.ofString "successor_info") 340]}),
 (117,{cls:=Value.type "tuple",data:=Data.seq #[]}),
 (119,{cls:=Value.type "code",data:=Data.fields #[Value.str (Str.ofString "done") 330,Value.str (Str.ofString "TopologicalSorter.done") 331,Value.str (Str.ofString "/claim/cut.py") 332,Value.int 68 0,Value.int 1 0,Value.int 0 0,Value.int 0 0,Value.int 7 0,Value.ref 114,Value.bool true,Value.int 181 0,Value.ref 115,Value.none,Value.ref 116,Value.ref 117,Value.ref 118,Value.int 341 0,Value.int 68 0,Value.str (Str.ofString "/claim/cut.py") 342]}),
 (120,{cls:=Value.type "function",data:=Data.func {name:=Str.ofString "done",qualname:=Str.ofString "TopologicalSorter.done",params:=dO (cj 6 7),body:=FuncBody.stmts (dG (cj 6 7)),scope:=cG (cj 6 7),globals:=3,closure:=[],defaults:=Value.none,kwdefaults:=Value.none,pyModule:=Value.str (Str.ofString "cpy313.graphlib") 194,code:=Value.ref 119}}),
 (121,{cls:=Value.type "tuple",data:=Data.seq #[]}),
 (123,{cls:=Value.type "tuple",data:=Data.seq #[Value.str (Str.ofString "self") 347,Value.str (Str.ofString "n2i") 348,Value.str (Str.ofString "stack") 349,Value.str (Str.ofString "itstack") 350,Value.str (Str.ofString "seen") 351,Value.str (Str.ofString "node2stacki") 352,Value.str (Str.ofString "node") 353]}),
 (124,{cls:=Value.type "tuple",data:=Data.seq #[]}),
 (126,{cls:=Value.type "code",data:=Data.fields #[Value.str (Str.ofString "_find_cycle") 344,Value.str (Str.ofString "TopologicalSorter._find_cycle") 345,Value.str (Str.ofString "/claim/cut.py") 346,Value.int 91 0,Value.int 1 0,Value.int 0 0,Value.int 0 0,Value.int 3 0,Value.ref 121,Value.bool true,Value.int 181 0,Value.ref 122,Value.none,Value.ref 123,Value.ref 124,Value.ref 125,Value.int 354 0,Value.int 91 0,Value.str (Str.ofString "/claim/cut.py") 355]}),
 (127,{cls:=Value.type "function",data:=Data.func {name:=Str.ofString "_find_cycle",qualname:=Str.ofString "TopologicalSorter._find_cycle",params:=dO (cj 6 8),body:=FuncBody.stmts (dG (cj 6 8)),scope:=cG (cj 6 8),globals:=3,closure:=[],defaults:=Value.none,kwdefaults:=Value.none,pyModule:=Value.str (Str.ofString "cpy313.graphlib") 194,code:=Value.ref 126}}),
 (128,{cls:=Value.type "tuple",data:=Data.seq #[]}),
 (130,{cls:=Value.type "tuple",data:=Data.seq #[Value.str (Str.ofString "self") 360]}),
 (131,{cls:=Value.type "tuple",data:=Data.seq #[]}),
 (133,{cls:=Value.type "code",data:=Data.fields #[Value.str (Str.ofString "static_order") 357,Value.str (Str.ofString "TopologicalSorter.static_order") 358,Value.str (Str.ofString "/claim/cut.py") 359,Value.int 120 0,Value.int 1 0,Value.int 0 0,Value.int 0 0,Value.int 3 0,Value.ref 128,Value.bool true,Value.int 181 0,Value.ref 129,Value.none,Value.ref 130,Value.ref 131,Value.ref 132,Value.int 361 0,Value.int 120 0,Value.str (Str.ofString "/claim/cut.py") 362]}),
 (134,{cls:=Value.type "function",data:=Data.func {name:=Str.ofString "static_order",qualname:=Str.ofString "TopologicalSorter.static_order",params:=dO (cj 6 9),body:=FuncBody.stmts (dG (cj 6 9)),scope:=cG (cj 6 9),globals:=3,closure:=[],defaults:=Value.none,kwdefaults:=Value.none,pyModule:=Value.str (Str.ofString "cpy313.graphlib") 194,code:=Value.ref 133}}),
 (135,{cls:=Value.type "tuple",data:=Data.seq #[Value.str (Str.ofString "_nfinished") 364,Value.str (Str.ofString "_node2info") 365,Value.str (Str.ofString "_npassedout") 366,Value.str (Str.ofString "_ready_nodes") 367]}),
 (136,{cls:=Value.type "dict",data:=Data.dict #[{hash:=PyData.keyHash P (Str.ofString "__module__"),key:=Value.str (Str.ofString "__module__") 264,val:=Value.str (Str.ofString "cpy313.graphlib") 194},{hash:=PyData.keyHash P (Str.ofString "__firstlineno__"),key:=Value.str (Str.ofString "__firstlineno__") 268,val:=Value.int 16 267},{hash:=PyData.keyHash P (Str.ofString "__init__"),key:=Value.str (Str.ofString "__init__") 278,val:=Value.ref 73},{hash:=PyData.keyHash P (Str.ofString "_get_nodeinfo"),key:=Value.str (Str.ofString "_get_nodeinfo") 287,val:=Value.ref 80},{hash:=PyData.keyHash P (Str.ofString "add"),key:=Value.str (Str.ofString "add") 299,val:=Value.ref 87},{hash:=PyData.keyHash P (Str.ofString "prepare"),key:=Value.str (Str.ofString "prepare") 305,val:=Value.ref 92},{hash:=PyData.keyHash P (Str.ofString "get_ready"),key:=Value.str (Str.ofString "get_ready") 315,val:=Value.ref 99},{hash:=PyData.keyHash P (Str.ofString "is_active"),key:=Value.str (Str.ofString "is_active") 322,val:=Value.ref 106},{hash:=PyData.keyHash P (Str.ofString "__bool__"),key:=Value.str (Str.ofString "__bool__") 329,val:=Value.ref 113},{hash:=PyData.keyHash P (Str.ofString "done"),key:=Value.str (Str.ofString "done") 343,val:=Value.ref 120},{hash:=PyData.keyHash P (Str.ofString "_find_cycle"),key:=Value.str (Str.ofString "_find_cycle") 356,val:=Value.ref 127},{hash:=PyData.keyHash P (Str.ofString "static_order"),key:=Value.str (Str.ofString "static_order") 363,val:=Value.ref 134},{hash:=PyData.keyHash P (Str.ofString "__static_attributes__"),key:=Value.str (Str.ofString "__static_attributes__") 368,val:=Value.ref 135},{hash:=PyData.keyHash P (Str.ofString "__dict__"),key:=Value.str (Str.ofString "__dict__") 370,val:=Value.ref 138},{hash:=PyData.keyHash P (Str.ofString "__weakref__"),key:=Value.str (Str.ofString "__weakref__") 372,val:=Value.ref 139},{hash:=PyData.keyHash P (Str.ofString "__doc__"),key:=Value.str (Str.ofString "__doc__") 373,val:=Value.none}] 4}),
 (137,{cls:=Value.type "type",data:=Data.cls {name:=Str.ofString "TopologicalSorter",bases:=[Value.type "object"],mro:=[Value.ref 137,Value.type "object"],ns:=136,qualname:=Str.ofString "TopologicalSorter"},slots:=#[none,none,some (Value.str (Str.ofString "TopologicalSorter") 257),some (Value.str (Str.ofString "TopologicalSorter") 265),some (Value.builtin "object.__new__"),some (Value.bool true)]}),
 (138,{cls:=Value.type "getset_descriptor",data:=Data.fields #[Value.str (Str.ofString "__dict__") 369,Value.ref 137,Value.builtin "function.__dict__",Value.builtin "function.__dict__#set"]}),
 (139,{cls:=Value.type "getset_descriptor",data:=Data.fields #[Value.str (Str.ofString "__weakref__") 371,Value.ref 137,Value.builtin "ExceptionGroup.__weakref__",Value.none]}),
 (142,{cls:=Value.type "tuple",data:=Data.seq #[]}),
 (144,{cls:=Value.type "tuple",data:=Data.seq #[Value.str (Str.ofString "mode") 381]}),
 (145,{cls:=Value.type "tuple",data:=Data.seq #[]}),
 (147,{cls:=Value.type "code",data:=Data.fields #[Value.str (Str.ofString "S_IFMT") 378,Value.str (Str.ofString "S_IFMT") 379,Value.str (Str.ofString "/claim/cut.py") 380,Value.int 123 0,Value.int 1 0,Value.int 0 0,Value.int 0 0,Value.int 3 0,Value.ref 142,Value.bool true,Value.int 181 0,Value.ref 143,Value.none,Value.ref 144,Value.ref 145,Value.ref 146,Value.int 382 0,Value.int 123 0,Value.str (Str.ofString "/claim/cut.py") 383]}),
 (148,{cls:=Value.type "function",data:=Data.func {name:=Str.ofString "S_IFMT",qualname:=Str.ofString "S_IFMT",params:=dO (dR 8),body:=FuncBody.stmts (dG (dR 8)),scope:=cG (dR 8),globals:=3,closure:=[],defaults:=Value.none,kwdefaults:=Value.none,pyModule:=Value.str (Str.ofString "cpy313.stat") 376,code:=Value.ref 147}}),
 (149,{cls:=Value.type "tuple",data:=Data.seq #[Value.int 40960 395,Value.str (Str.ofString "l") 423]}),
 (150,{cls:=Value.type "tuple",data:=Data.seq #[Value.int 49152 397,Value.str (Str.ofString "s") 424]}),
 (151,{cls:=Value.type "tuple",data:=Data.seq #[Value.int 32768 391,Value.str (Str.ofString "-") 425]}),
 (152,{cls:=Value.type "tuple",data:=Data.seq #[Value.int 24576 389,Value.str (Str.ofString "b") 426]}),
 (153,{cls:=Value.type "tuple",data:=Data.seq #[Value.int 16384 385,Value.str (Str.ofString "d") 427]}),
 (154,{cls:=Value.type "tuple",data:=Data.seq #[Value.int 8192 387,Value.str (Str.ofString "c") 428]}),
 (155,{cls:=Value.type "tuple",data:=Data.seq #[Value.int 4096 393,Value.str (Str.ofString "p") 429]}),
 (156,{cls:=Value.type "tuple",data:=Data.seq #[Value.ref 149,Value.ref 150,Value.ref 151,Value.ref 152,Value.ref 153,Value.ref 154,Value.ref 155]}),
 (157,{cls:=Value.type "tuple",data:=Data.seq #[Value.int 256 405,Value.str (Str.ofString "r") 430]}),
 (158,{cls:=Value.type "tuple",data:=Data.seq #[Value.ref 157]}),
 (159,{cls:=Value.type "tuple",data:=Data.seq #[Value.int 128 407,Value.str (Str.ofString "w") 431]}),
 (160,{cls:=Value.type "tuple",data:=Data.seq #[Value.ref 159]}),
 (161,{cls:=Value.type "tuple",data:=Data.seq #[Value.int 2112 432,Value.str (Str.ofString "s") 433]}),
 (162,{cls:=Value.type "tuple",data:=Data.seq #[Value.int 2048 399,Value.str (Str.ofString "S") 434]}),
 (163,{cls:=Value.type "tuple",data:=Data.seq #[Value.int 64 409,Value.str (Str.ofString "x") 435]}),
 (164,{cls:=Value.type "tuple",data:=Data.seq #[Value.ref 161,Value.ref 162,Value.ref 163]}),
 (165,{cls:=Value.type "tuple",data:=Data.seq #[Value.int 32 411,Value.str (Str.ofString "r") 436]}),
 (166,{cls:=Value.type "tuple",data:=Data.seq #[Value.ref 165]}),
 (167,{cls:=Value.type "tuple",data:=Data.seq #[Value.int 16 413,Value.str (Str.ofString "w") 437]}),
 (168,{cls:=Value.type "tuple",data:=Data.seq #[Value.ref 167]}),
 (169,{cls:=Value.type "tuple",data:=Data.seq #[Value.int 1032 438,Value.str (Str.ofString "s") 439]}),
 (170,{cls:=Value.type "tuple",data:=Data.seq #[Value.int 1024 401,Value.str (Str.ofString "S") 440]}),
 (171,{cls:=Value.type "tuple",data:=Data.seq #[Value.int 8 415,Value.str (Str.ofString "x") 441]}),
 (172,{cls:=Value.type "tuple",data:=Data.seq #[Value.ref 169,Value.ref 170,Value.ref 171]}),
 (173,{cls:=Value.type "tuple",data:=Data.seq #[Value.int 4 417,Value.str (Str.ofString "r") 442]}),
 (174,{cls:=Value.type "tuple",data:=Data.seq #[Value.ref 173]}),
 (175,{cls:=Value.type "tuple",data:=Data.seq #[Value.int 2 419,Value.str (Str.ofString "w") 443]}),
 (176,{cls:=Value.type "tuple",data:=Data.seq #[Value.ref 175]}),
 (177,{cls:=Value.type "tuple",data:=Data.seq #[Value.int 513 444,Value.str (Str.ofString "t") 445]}),
 (178,{cls:=Value.type "tuple",data:=Data.seq #[Value.int 512 403,Value.str (Str.ofString "T") 446]}),
 (179,{cls:=Value.type "tuple",data:=Data.seq #[Value.int 1 421,Value.str (Str.ofString "x") 447]}),
 (180,{cls:=Value.type "tuple",data:=Data.seq #[Value.ref 177,Value.ref 178,Value.ref 179]}),
 (181,{cls:=Value.type "tuple",data:=Data.seq #[Value.ref 156,Value.ref 158,Value.ref 160,Value.ref 164,Value.ref 166,Value.ref 168,Value.ref 172,Value.ref 174,Value.ref 176,Value.ref 180]}),
 (182,{cls:=Value.type "tuple",data:=Data.seq #[]}),
 (184,{cls:=Value.type "tuple",data:=Data.seq #[Value.str (Str.ofString "mode") 452,Value.str (Str.ofString "perm") 453,Value.str (Str.ofString "index") 454,Value.str (Str.ofString "table") 455,Value.str (Str.ofString "bit") 456,Value.str (Str.ofString "char") 457]}),
 (185,{cls:=Value.type "tuple",data:=Data.seq #[]}),
 (187,{cls:=Value.type "code",data:=Data.fields #[Value.str (Str.ofString "filemode") 449,Value.str (Str.ofString "filemode") 450,Value.str (Str.ofString "/claim/cut.py") 451,Value.int 145 0,Value.int 1 0,Value.int 0 0,Value.int 0 0,Value.int 3 0,Value.ref 182,Value.bool true,Value.int 181 0,Value.ref 183,Value.none,Value.ref 184,Value.ref 185,Value.ref 186,Value.int 458 0,Value.int 145 0,Value.str (Str.ofString "/claim/cut.py") 459]}),
 (188,{cls:=Value.type "function",data:=Data.func {name:=Str.ofString "filemode",qualname:=Str.ofString "filemode",params:=dO (dR 29),body:=FuncBody.stmts (dG (dR 29)),scope:=cG (dR 29),globals:=3,closure:=[],defaults:=Value.none,kwdefaults:=Value.none,pyModule:=Value.str (Str.ofString "cpy313.stat") 376,code:=Value.ref 187}}),
 (189,{cls:=Value.type "tuple",data:=Data.seq #[]}),
 (191,{cls:=Value.type "tuple",data:=Data.seq #[Value.str (Str.ofString "ch_a") 472,Value.str (Str.ofString "ch_b") 473]}),
 (192,{cls:=Value.type "tuple",data:=Data.seq #[]}),
 (194,{cls:=Value.type "code",data:=Data.fields #[Value.str (Str.ofString "_substitution_cost") 469,Value.str (Str.ofString "_substitution_cost") 470,Value.str (Str.ofString "/claim/cut.py") 471,Value.int 166 0,Value.int 2 0,Value.int 0 0,Value.int 0 0,Value.int 3 0,Value.ref 189,Value.bool true,Value.int 181 0,Value.ref 190,Value.none,Value.ref 191,Value.ref 192,Value.ref 193,Value.int 474 0,Value.int 166 0,Value.str (Str.ofString "/claim/cut.py") 475]}),
 (195,{cls:=Value.type "function",data:=Data.func {name:=Str.ofString "_substitution_cost",qualname:=Str.ofString "_substitution_cost",params:=dO (dR 34),body:=FuncBody.stmts (dG (dR 34)),scope:=cG (dR 34),globals:=3,closure:=[],defaults:=Value.none,kwdefaults:=Value.none,pyModule:=Value.str (Str.ofString "cpy313.traceback") 461,code:=Value.ref 194}}),
 (196,{cls:=Value.type "tuple",data:=Data.seq #[]}),
 (198,{cls:=Value.type "tuple",data:=Data.seq #[Value.str (Str.ofString "a") 480,Value.str (Str.ofString "b") 481,Value.str (Str.ofString "max_cost") 482,Value.str (Str.ofString "pre") 483,Value.str (Str.ofString "post") 484,Value.str (Str.ofString "row") 485,Value.str (Str.ofString "result") 486,Value.str (Str.ofString "bindex") 487,Value.str (Str.ofString "bchar") 488,Value.str (Str.ofString "distance") 489,Value.str (Str.ofString "minimum") 490,Value.str (Str.ofString "index") 491,Value.str (Str.ofString "substitute") 492,Value.str (Str.ofString "insert_delete") 493]}),
 (199,{cls:=Value.type "tuple",data:=Data.seq #[]}),
 (201,{cls:=Value.type "code",data:=Data.fields #[Value.str (Str.ofString "_levenshtein_distance") 477,Value.str (Str.ofString "_levenshtein_distance") 478,Value.str (Str.ofString "/claim/cut.py") 479,Value.int 172 0,Value.int 3 0,Value.int 0 0,Value.int 0 0,Value.int 3 0,Value.ref 196,Value.bool true,Value.int 181 0,Value.ref 197,Value.none,Value.ref 198,Value.ref 199,Value.ref 200,Value.int 494 0,Value.int 172 0,Value.str (Str.ofString "/claim/cut.py") 495]}),
 (202,{cls:=Value.type "function",data:=Data.func {name:=Str.ofString "_levenshtein_distance",qualname:=Str.ofString "_levenshtein_distance",params:=dO (dR 35),body:=FuncBody.stmts (dG (dR 35)),scope:=cG (dR 35),globals:=3,closure:=[],defaults:=Value.none,kwdefaults:=Value.none,pyModule:=Value.str (Str.ofString "cpy313.traceback") 461,code:=Value.ref 201}}),
 (203,{cls:=Value.type "tuple",data:=Data.seq #[]}),
 (205,{cls:=Value.type "tuple",data:=Data.seq #[Value.str (Str.ofString "needs") 502,Value.str (Str.ofString "sorter") 503,Value.str (Str.ofString "k") 504]}),
 (206,{cls:=Value.type "tuple",data:=Data.seq #[]}),
 (208,{cls:=Value.type "code",data:=Data.fields #[Value.str (Str.ofString "_law_sorter") 499,Value.str (Str.ofString "_law_sorter") 500,Value.str (Str.ofString "/claim/cut.py") 501,Value.int 211 0,Value.int 1 0,Value.int 0 0,Value.int 0 0,Value.int 3 0,Value.ref 203,Value.bool true,Value.int 181 0,Value.ref 204,Value.none,Value.ref 205,Value.ref 206,Value.ref 207,Value.int 505 0,Value.int 211 0,Value.str (Str.ofString "/claim/cut.py") 506]}),
 (209,{cls:=Value.type "function",data:=Data.func {name:=Str.ofString "_law_sorter",qualname:=Str.ofString "_law_sorter",params:=dO (dR 37),body:=FuncBody.stmts (dG (dR 37)),scope:=cG (dR 37),globals:=3,closure:=[],defaults:=Value.none,kwdefaults:=Value.none,pyModule:=Value.str (Str.ofString "law_un0049_03") 497,code:=Value.ref 208}}),
 (210,{cls:=Value.type "tuple",data:=Data.seq #[]}),
 (212,{cls:=Value.type "tuple",data:=Data.seq #[Value.str (Str.ofString "needs") 511,Value.str (Str.ofString "numbers") 512,Value.str (Str.ofString "sorter") 513,Value.str (Str.ofString "order") 514,Value.str (Str.ofString "waiting") 515,Value.str (Str.ofString "k") 516]}),
 (213,{cls:=Value.type "tuple",data:=Data.seq #[]}),
 (215,{cls:=Value.type "code",data:=Data.fields #[Value.str (Str.ofString "_law_order") 508,Value.str (Str.ofString "_law_order") 509,Value.str (Str.ofString "/claim/cut.py") 510,Value.int 217 0,Value.int 2 0,Value.int 0 0,Value.int 0 0,Value.int 3 0,Value.ref 210,Value.bool true,Value.int 181 0,Value.ref 211,Value.none,Value.ref 212,Value.ref 213,Value.ref 214,Value.int 517 0,Value.int 217 0,Value.str (Str.ofString "/claim/cut.py") 518]}),
 (216,{cls:=Value.type "function",data:=Data.func {name:=Str.ofString "_law_order",qualname:=Str.ofString "_law_order",params:=dO (dR 38),body:=FuncBody.stmts (dG (dR 38)),scope:=cG (dR 38),globals:=3,closure:=[],defaults:=Value.none,kwdefaults:=Value.none,pyModule:=Value.str (Str.ofString "law_un0049_03") 497,code:=Value.ref 215}}),
 (217,{cls:=Value.type "tuple",data:=Data.seq #[]}),
 (219,{cls:=Value.type "tuple",data:=Data.seq #[Value.str (Str.ofString "needs") 523,Value.str (Str.ofString "order") 524,Value.str (Str.ofString "sorter") 525,Value.str (Str.ofString "k") 526]}),
 (220,{cls:=Value.type "tuple",data:=Data.seq #[]}),
 (222,{cls:=Value.type "code",data:=Data.fields #[Value.str (Str.ofString "_law_let") 520,Value.str (Str.ofString "_law_let") 521,Value.str (Str.ofString "/claim/cut.py") 522,Value.int 228 0,Value.int 2 0,Value.int 0 0,Value.int 0 0,Value.int 3 0,Value.ref 217,Value.bool true,Value.int 181 0,Value.ref 218,Value.none,Value.ref 219,Value.ref 220,Value.ref 221,Value.int 527 0,Value.int 228 0,Value.str (Str.ofString "/claim/cut.py") 528]}),
 (223,{cls:=Value.type "function",data:=Data.func {name:=Str.ofString "_law_let",qualname:=Str.ofString "_law_let",params:=dO (dR 39),body:=FuncBody.stmts (dG (dR 39)),scope:=cG (dR 39),globals:=3,closure:=[],defaults:=Value.none,kwdefaults:=Value.none,pyModule:=Value.str (Str.ofString "law_un0049_03") 497,code:=Value.ref 222}}),
 (224,{cls:=Value.type "tuple",data:=Data.seq #[]}),
 (227,{cls:=Value.type "code",data:=Data.fields #[Value.str (Str.ofString "_law_evacuated") 530,Value.str (Str.ofString "_law_evacuated") 531,Value.str (Str.ofString "/claim/cut.py") 532,Value.int 237 0,Value.int 3 0,Value.int 0 0,Value.int 0 0,Value.int 3 0,Value.ref 224,Value.bool true,Value.int 181 0,Value.ref 225,Value.none,Value.none,Value.none,Value.ref 226,Value.int 533 0,Value.int 237 0,Value.str (Str.ofString "/claim/cut.py") 534]}),
 (228,{cls:=Value.type "function",data:=Data.func {name:=Str.ofString "_law_evacuated",qualname:=Str.ofString "_law_evacuated",params:=dO (dR 40),body:=FuncBody.stmts (dG (dR 40)),scope:=cG (dR 40),globals:=3,closure:=[],defaults:=Value.none,kwdefaults:=Value.none,pyModule:=Value.str (Str.ofString "law_un0049_03") 497,code:=Value.ref 227}}),
 (229,{cls:=Value.type "tuple",data:=Data.seq #[]}),
 (232,{cls:=Value.type "code",data:=Data.fields #[Value.str (Str.ofString "law") 536,Value.str (Str.ofString "law") 537,Value.str (Str.ofString "/claim/cut.py") 538,Value.int 249 0,Value.int 1 0,Value.int 0 0,Value.int 0 0,Value.int 3 0,Value.ref 229,Value.bool true,Value.int 181 0,Value.ref 230,Value.none,Value.none,Value.none,Value.ref 231,Value.int 539 0,Value.int 249 0,Value.str (Str.ofString "/claim/cut.py") 540]}),
 (233,{cls:=Value.type "function",data:=Data.func {name:=Str.ofString "law",qualname:=Str.ofString "law",params:=dO (dR 41),body:=FuncBody.stmts (dG (dR 41)),scope:=cG (dR 41),globals:=3,closure:=[],defaults:=Value.none,kwdefaults:=Value.none,pyModule:=Value.str (Str.ofString "law_un0049_03") 497,code:=Value.ref 232}})]
noncomputable def as03:List Addr:=[2,3,15,17,18,20,21,29,30,32,33,35,36,37,39,40,41,42,43,46,53,54,55,56,66,67,69,70,72,73,74,76,77,79,80,81,83,84,86,87,88,91,92,93,95,96,98,99,100,102,103,105,106,107,109,110,112,113,114,116,117,119,120,121,123,124,126,127,128,130,131,133,134,135,136,137,138,139,142,144,145,147,148,149,150,151,152,153,154,155,156,157,158,159,160,161,162,163,164,165,166,167,168,169,170,171,172,173,174,175,176,177,178,179,180,181,182,184,185,187,188,189,191,192,194,195,196,198,199,201,202,203,205,206,208,209,210,212,213,215,216,217,219,220,222,223,224,227,228,229,232,233]
noncomputable def view03:Program:={PySem.Challenge.pw_un0049_03 with main:={PySem.Challenge.pw_un0049_03.main with body:=[0,2,3,4,5,6,8,9,10,11,12,13,14,15,16,17,18,19,20,21,22,23,24,25,26,27,28,29,31,32,33,34,35,37,38,39,40,41].filterMap λ i=>PySem.Challenge.pw_un0049_03.main.body[i]?}}
noncomputable def loose03:List Str:=[Str.ofString "_NodeInfo",Str.ofString "_filemode_table"]
theorem as03_ok:∀P,as03=(K03 P).map (·.1):=λ _=>by kernel_rfl
noncomputable def hook03:Hook:=kHook K03 as03 as03_ok
theorem left03:LeftO PySem.Challenge.pw_un0049_03 view03 loose03 (λ _=>true) (Hook.obs hook03) (Hook.val hook03) 3550:=by
 intro w
 kernel_rfl
@[elab_as_elim] theorem rwl {α : Sort u} {a b : α} {M : α → Prop} (h : a = b) (k : M b) : M a := h ▸ k
@[elab_as_elim] theorem rwr {α : Sort u} {a b : α} {M : α → Prop} (h : b = a) (k : M b) : M a := h ▸ k
theorem eA {A:Prop}{B:Prop}{G:Prop}(h:A/\B)(k:∀(_:A) (_:B),G):G:=And.elim k h
theorem eE {α:Sort _}{A:∀(x:α),Prop}{G:Prop}(h:∃x:α,A x)(k:∀(x:α) (_:A x),G):G:=h.elim k
theorem fT {A:Prop}{B:Prop}{C:Prop}{G:Prop}(h:A/\B/\C)(k:∀(_:A) (_:B) (_:C),G):G:=eA h λ z q=>eA q (k z)
theorem wy {A:Prop}{α:Sort _}{B:∀(x:α),Prop}{G:Prop}(h:A/\∃x:α,B x)(k:∀(_:A) (x:α) (_:B x),G):G:=eA h λ z q=>eE q (k z)
theorem aQ {α:Sort _}{A:∀(x:α),Prop}{B:∀(x:α),Prop}{G:Prop}(h:∃x:α,A x/\B x)(k:∀(x:α) (_:A x) (_:B x),G):G:=eE h λ z q=>eA q (k z)
theorem vf {α:Sort _}{β:Sort _}{A:∀(x:α) (y:β),Prop}{G:Prop}(h:∃x:α,∃y:β,A x y)(k:∀(x:α) (y:β) (_:A x y),G):G:=eE h λ z q=>eE q (k z)
theorem uM {A:Prop}{B:Prop}{C:Prop}{D:Prop}{G:Prop}(h:A/\B/\C/\D)(k:∀(_:A) (_:B) (_:C) (_:D),G):G:=eA h λ z q=>fT q (k z)
theorem eAAE {A:Prop}{B:Prop}{α:Sort _}{C:∀(x:α),Prop}{G:Prop}(h:A/\B/\∃x:α,C x)(k:∀(_:A) (_:B) (x:α) (_:C x),G):G:=eA h λ z q=>wy q (k z)
theorem gc {A:Prop}{α:Sort _}{B:∀(x:α),Prop}{C:∀(x:α),Prop}{G:Prop}(h:A/\∃x:α,B x/\C x)(k:∀(_:A) (x:α) (_:B x) (_:C x),G):G:=eA h λ z q=>aQ q (k z)
theorem bW {α:Sort _}{A:∀(x:α),Prop}{B:∀(x:α),Prop}{C:∀(x:α),Prop}{G:Prop}(h:∃x:α,A x/\B x/\C x)(k:∀(x:α) (_:A x) (_:B x) (_:C x),G):G:=eE h λ z q=>fT q (k z)
theorem ez {α:Sort _}{β:Sort _}{A:∀(x:α) (y:β),Prop}{B:∀(x:α) (y:β),Prop}{G:Prop}(h:∃x:α,∃y:β,A x y/\B x y)(k:∀(x:α) (y:β) (_:A x y) (_:B x y),G):G:=eE h λ z q=>aQ q (k z)
theorem wr {α:Sort _}{β:Sort _}{γ:Sort _}{A:∀(x:α) (y:β) (z:γ),Prop}{G:Prop}(h:∃x:α,∃y:β,∃z:γ,A x y z)(k:∀(x:α) (y:β) (z:γ) (_:A x y z),G):G:=eE h λ z q=>vf q (k z)
theorem ou {A:Prop}{B:Prop}{C:Prop}{D:Prop}{F:Prop}{G:Prop}(h:A/\B/\C/\D/\F)(k:∀(_:A) (_:B) (_:C) (_:D) (_:F),G):G:=eA h λ z q=>uM q (k z)
theorem eAAAE {A:Prop}{B:Prop}{C:Prop}{α:Sort _}{D:∀(x:α),Prop}{G:Prop}(h:A/\B/\C/\∃x:α,D x)(k:∀(_:A) (_:B) (_:C) (x:α) (_:D x),G):G:=eA h λ z q=>eAAE q (k z)
theorem jH {A:Prop}{B:Prop}{α:Sort _}{C:∀(x:α),Prop}{D:∀(x:α),Prop}{G:Prop}(h:A/\B/\∃x:α,C x/\D x)(k:∀(_:A) (_:B) (x:α) (_:C x) (_:D x),G):G:=eA h λ z q=>gc q (k z)
theorem uI {A:Prop}{α:Sort _}{B:∀(x:α),Prop}{C:∀(x:α),Prop}{D:∀(x:α),Prop}{G:Prop}(h:A/\∃x:α,B x/\C x/\D x)(k:∀(_:A) (x:α) (_:B x) (_:C x) (_:D x),G):G:=eA h λ z q=>bW q (k z)
theorem eAEEA {A:Prop}{α:Sort _}{β:Sort _}{B:∀(x:α) (y:β),Prop}{C:∀(x:α) (y:β),Prop}{G:Prop}(h:A/\∃x:α,∃y:β,B x y/\C x y)(k:∀(_:A) (x:α) (y:β) (_:B x y) (_:C x y),G):G:=eA h λ z q=>ez q (k z)
theorem eAEEE {A:Prop}{α:Sort _}{β:Sort _}{γ:Sort _}{B:∀(x:α) (y:β) (z:γ),Prop}{G:Prop}(h:A/\∃x:α,∃y:β,∃z:γ,B x y z)(k:∀(_:A) (x:α) (y:β) (z:γ) (_:B x y z),G):G:=eA h λ z q=>wr q (k z)
theorem em {α:Sort _}{A:∀(x:α),Prop}{B:∀(x:α),Prop}{C:∀(x:α),Prop}{D:∀(x:α),Prop}{G:Prop}(h:∃x:α,A x/\B x/\C x/\D x)(k:∀(x:α) (_:A x) (_:B x) (_:C x) (_:D x),G):G:=eE h λ z q=>uM q (k z)
theorem ja {α:Sort _}{A:∀(x:α),Prop}{B:∀(x:α),Prop}{β:Sort _}{C:∀(x:α) (y:β),Prop}{G:Prop}(h:∃x:α,A x/\B x/\∃y:β,C x y)(k:∀(x:α) (_:A x) (_:B x) (y:β) (_:C x y),G):G:=eE h λ z q=>eAAE q (k z)
theorem uG {α:Sort _}{A:∀(x:α),Prop}{β:Sort _}{B:∀(x:α) (y:β),Prop}{C:∀(x:α) (y:β),Prop}{G:Prop}(h:∃x:α,A x/\∃y:β,B x y/\C x y)(k:∀(x:α) (_:A x) (y:β) (_:B x y) (_:C x y),G):G:=eE h λ z q=>gc q (k z)
theorem bR {α:Sort _}{β:Sort _}{A:∀(x:α) (y:β),Prop}{B:∀(x:α) (y:β),Prop}{C:∀(x:α) (y:β),Prop}{G:Prop}(h:∃x:α,∃y:β,A x y/\B x y/\C x y)(k:∀(x:α) (y:β) (_:A x y) (_:B x y) (_:C x y),G):G:=eE h λ z q=>bW q (k z)
theorem kY {α:Sort _}{β:Sort _}{γ:Sort _}{A:∀(x:α) (y:β) (z:γ),Prop}{B:∀(x:α) (y:β) (z:γ),Prop}{G:Prop}(h:∃x:α,∃y:β,∃z:γ,A x y z/\B x y z)(k:∀(x:α) (y:β) (z:γ) (_:A x y z) (_:B x y z),G):G:=eE h λ z q=>ez q (k z)
theorem uL {A:Prop}{B:Prop}{C:Prop}{D:Prop}{F:Prop}{H:Prop}{G:Prop}(h:A/\B/\C/\D/\F/\H)(k:∀(_:A) (_:B) (_:C) (_:D) (_:F) (_:H),G):G:=eA h λ z q=>ou q (k z)
theorem za {A:Prop}{B:Prop}{C:Prop}{α:Sort _}{D:∀(x:α),Prop}{F:∀(x:α),Prop}{G:Prop}(h:A/\B/\C/\∃x:α,D x/\F x)(k:∀(_:A) (_:B) (_:C) (x:α) (_:D x) (_:F x),G):G:=eA h λ z q=>jH q (k z)
theorem y_ {A:Prop}{α:Sort _}{β:Sort _}{B:∀(x:α) (y:β),Prop}{C:∀(x:α) (y:β),Prop}{D:∀(x:α) (y:β),Prop}{G:Prop}(h:A/\∃x:α,∃y:β,B x y/\C x y/\D x y)(k:∀(_:A) (x:α) (y:β) (_:B x y) (_:C x y) (_:D x y),G):G:=eA h λ z q=>bR q (k z)
theorem iM {α:Sort _}{A:∀(x:α),Prop}{B:∀(x:α),Prop}{C:∀(x:α),Prop}{D:∀(x:α),Prop}{F:∀(x:α),Prop}{G:Prop}(h:∃x:α,A x/\B x/\C x/\D x/\F x)(k:∀(x:α) (_:A x) (_:B x) (_:C x) (_:D x) (_:F x),G):G:=eE h λ z q=>ou q (k z)
theorem ni {α:Sort _}{A:∀(x:α),Prop}{B:∀(x:α),Prop}{β:Sort _}{C:∀(x:α) (y:β),Prop}{D:∀(x:α) (y:β),Prop}{G:Prop}(h:∃x:α,A x/\B x/\∃y:β,C x y/\D x y)(k:∀(x:α) (_:A x) (_:B x) (y:β) (_:C x y) (_:D x y),G):G:=eE h λ z q=>jH q (k z)
theorem uF {α:Sort _}{A:∀(x:α),Prop}{β:Sort _}{B:∀(x:α) (y:β),Prop}{C:∀(x:α) (y:β),Prop}{D:∀(x:α) (y:β),Prop}{G:Prop}(h:∃x:α,A x/\∃y:β,B x y/\C x y/\D x y)(k:∀(x:α) (_:A x) (y:β) (_:B x y) (_:C x y) (_:D x y),G):G:=eE h λ z q=>uI q (k z)
theorem bC {α:Sort _}{A:∀(x:α),Prop}{β:Sort _}{γ:Sort _}{B:∀(x:α) (y:β) (z:γ),Prop}{C:∀(x:α) (y:β) (z:γ),Prop}{G:Prop}(h:∃x:α,A x/\∃y:β,∃z:γ,B x y z/\C x y z)(k:∀(x:α) (_:A x) (y:β) (z:γ) (_:B x y z) (_:C x y z),G):G:=eE h λ z q=>eAEEA q (k z)
theorem pK {α:Sort _}{A:∀(x:α),Prop}{β:Sort _}{γ:Sort _}{δ:Sort _}{B:∀(x:α) (y:β) (z:γ) (w:δ),Prop}{G:Prop}(h:∃x:α,A x/\∃y:β,∃z:γ,∃w:δ,B x y z w)(k:∀(x:α) (_:A x) (y:β) (z:γ) (w:δ) (_:B x y z w),G):G:=eE h λ z q=>eAEEE q (k z)
theorem bz {α:Sort _}{β:Sort _}{A:∀(x:α) (y:β),Prop}{B:∀(x:α) (y:β),Prop}{C:∀(x:α) (y:β),Prop}{D:∀(x:α) (y:β),Prop}{G:Prop}(h:∃x:α,∃y:β,A x y/\B x y/\C x y/\D x y)(k:∀(x:α) (y:β) (_:A x y) (_:B x y) (_:C x y) (_:D x y),G):G:=eE h λ z q=>em q (k z)
theorem eX {α:Sort _}{β:Sort _}{γ:Sort _}{A:∀(x:α) (y:β) (z:γ),Prop}{B:∀(x:α) (y:β) (z:γ),Prop}{C:∀(x:α) (y:β) (z:γ),Prop}{G:Prop}(h:∃x:α,∃y:β,∃z:γ,A x y z/\B x y z/\C x y z)(k:∀(x:α) (y:β) (z:γ) (_:A x y z) (_:B x y z) (_:C x y z),G):G:=eE h λ z q=>bR q (k z)
theorem qS {A:Prop}{B:Prop}{C:Prop}{D:Prop}{F:Prop}{H:Prop}{I:Prop}{G:Prop}(h:A/\B/\C/\D/\F/\H/\I)(k:∀(_:A) (_:B) (_:C) (_:D) (_:F) (_:H) (_:I),G):G:=eA h λ z q=>uL q (k z)
theorem ww {A:Prop}{α:Sort _}{β:Sort _}{B:∀(x:α) (y:β),Prop}{C:∀(x:α) (y:β),Prop}{D:∀(x:α) (y:β),Prop}{F:∀(x:α) (y:β),Prop}{G:Prop}(h:A/\∃x:α,∃y:β,B x y/\C x y/\D x y/\F x y)(k:∀(_:A) (x:α) (y:β) (_:B x y) (_:C x y) (_:D x y) (_:F x y),G):G:=eA h λ z q=>bz q (k z)
theorem qR {α:Sort _}{A:∀(x:α),Prop}{B:∀(x:α),Prop}{C:∀(x:α),Prop}{D:∀(x:α),Prop}{F:∀(x:α),Prop}{H:∀(x:α),Prop}{G:Prop}(h:∃x:α,A x/\B x/\C x/\D x/\F x/\H x)(k:∀(x:α) (_:A x) (_:B x) (_:C x) (_:D x) (_:F x) (_:H x),G):G:=eE h λ z q=>uL q (k z)
theorem wu {α:Sort _}{A:∀(x:α),Prop}{B:∀(x:α),Prop}{C:∀(x:α),Prop}{β:Sort _}{D:∀(x:α) (y:β),Prop}{F:∀(x:α) (y:β),Prop}{G:Prop}(h:∃x:α,A x/\B x/\C x/\∃y:β,D x y/\F x y)(k:∀(x:α) (_:A x) (_:B x) (_:C x) (y:β) (_:D x y) (_:F x y),G):G:=eE h λ z q=>za q (k z)
theorem wt {α:Sort _}{A:∀(x:α),Prop}{β:Sort _}{γ:Sort _}{B:∀(x:α) (y:β) (z:γ),Prop}{C:∀(x:α) (y:β) (z:γ),Prop}{D:∀(x:α) (y:β) (z:γ),Prop}{G:Prop}(h:∃x:α,A x/\∃y:β,∃z:γ,B x y z/\C x y z/\D x y z)(k:∀(x:α) (_:A x) (y:β) (z:γ) (_:B x y z) (_:C x y z) (_:D x y z),G):G:=eE h λ z q=>y_ q (k z)
theorem dF {α:Sort _}{β:Sort _}{A:∀(x:α) (y:β),Prop}{B:∀(x:α) (y:β),Prop}{C:∀(x:α) (y:β),Prop}{D:∀(x:α) (y:β),Prop}{F:∀(x:α) (y:β),Prop}{G:Prop}(h:∃x:α,∃y:β,A x y/\B x y/\C x y/\D x y/\F x y)(k:∀(x:α) (y:β) (_:A x y) (_:B x y) (_:C x y) (_:D x y) (_:F x y),G):G:=eE h λ z q=>iM q (k z)
theorem eI {α:Sort _}{β:Sort _}{γ:Sort _}{A:∀(x:α) (y:β) (z:γ),Prop}{B:∀(x:α) (y:β) (z:γ),Prop}{C:∀(x:α) (y:β) (z:γ),Prop}{D:∀(x:α) (y:β) (z:γ),Prop}{G:Prop}(h:∃x:α,∃y:β,∃z:γ,A x y z/\B x y z/\C x y z/\D x y z)(k:∀(x:α) (y:β) (z:γ) (_:A x y z) (_:B x y z) (_:C x y z) (_:D x y z),G):G:=eE h λ z q=>bz q (k z)
theorem i_ {α:Sort _}{β:Sort _}{γ:Sort _}{δ:Sort _}{A:∀(x:α) (y:β) (z:γ) (w:δ),Prop}{B:∀(x:α) (y:β) (z:γ) (w:δ),Prop}{C:∀(x:α) (y:β) (z:γ) (w:δ),Prop}{G:Prop}(h:∃x:α,∃y:β,∃z:γ,∃w:δ,A x y z w/\B x y z w/\C x y z w)(k:∀(x:α) (y:β) (z:γ) (w:δ) (_:A x y z w) (_:B x y z w) (_:C x y z w),G):G:=eE h λ z q=>eX q (k z)
theorem uK {A:Prop}{B:Prop}{C:Prop}{D:Prop}{F:Prop}{H:Prop}{I:Prop}{J:Prop}{G:Prop}(h:A/\B/\C/\D/\F/\H/\I/\J)(k:∀(_:A) (_:B) (_:C) (_:D) (_:F) (_:H) (_:I) (_:J),G):G:=eA h λ z q=>qS q (k z)
theorem uJ {A:Prop}{B:Prop}{α:Sort _}{β:Sort _}{C:∀(x:α) (y:β),Prop}{D:∀(x:α) (y:β),Prop}{F:∀(x:α) (y:β),Prop}{H:∀(x:α) (y:β),Prop}{G:Prop}(h:A/\B/\∃x:α,∃y:β,C x y/\D x y/\F x y/\H x y)(k:∀(_:A) (_:B) (x:α) (y:β) (_:C x y) (_:D x y) (_:F x y) (_:H x y),G):G:=eA h λ z q=>ww q (k z)
theorem uH {A:Prop}{α:Sort _}{β:Sort _}{B:∀(x:α) (y:β),Prop}{C:∀(x:α) (y:β),Prop}{D:∀(x:α) (y:β),Prop}{F:∀(x:α) (y:β),Prop}{H:∀(x:α) (y:β),Prop}{G:Prop}(h:A/\∃x:α,∃y:β,B x y/\C x y/\D x y/\F x y/\H x y)(k:∀(_:A) (x:α) (y:β) (_:B x y) (_:C x y) (_:D x y) (_:F x y) (_:H x y),G):G:=eA h λ z q=>dF q (k z)
theorem g9 {A:Prop}{α:Sort _}{β:Sort _}{γ:Sort _}{B:∀(x:α) (y:β) (z:γ),Prop}{C:∀(x:α) (y:β) (z:γ),Prop}{D:∀(x:α) (y:β) (z:γ),Prop}{F:∀(x:α) (y:β) (z:γ),Prop}{G:Prop}(h:A/\∃x:α,∃y:β,∃z:γ,B x y z/\C x y z/\D x y z/\F x y z)(k:∀(_:A) (x:α) (y:β) (z:γ) (_:B x y z) (_:C x y z) (_:D x y z) (_:F x y z),G):G:=eA h λ z q=>eI q (k z)
theorem k5 {α:Sort _}{A:∀(x:α),Prop}{B:∀(x:α),Prop}{C:∀(x:α),Prop}{D:∀(x:α),Prop}{F:∀(x:α),Prop}{H:∀(x:α),Prop}{I:∀(x:α),Prop}{G:Prop}(h:∃x:α,A x/\B x/\C x/\D x/\F x/\H x/\I x)(k:∀(x:α) (_:A x) (_:B x) (_:C x) (_:D x) (_:F x) (_:H x) (_:I x),G):G:=eE h λ z q=>qS q (k z)
theorem dB {α:Sort _}{β:Sort _}{A:∀(x:α) (y:β),Prop}{B:∀(x:α) (y:β),Prop}{C:∀(x:α) (y:β),Prop}{D:∀(x:α) (y:β),Prop}{F:∀(x:α) (y:β),Prop}{H:∀(x:α) (y:β),Prop}{G:Prop}(h:∃x:α,∃y:β,A x y/\B x y/\C x y/\D x y/\F x y/\H x y)(k:∀(x:α) (y:β) (_:A x y) (_:B x y) (_:C x y) (_:D x y) (_:F x y) (_:H x y),G):G:=eE h λ z q=>qR q (k z)
theorem uD {α:Sort _}{β:Sort _}{A:∀(x:α) (y:β),Prop}{B:∀(x:α) (y:β),Prop}{C:∀(x:α) (y:β),Prop}{γ:Sort _}{D:∀(x:α) (y:β) (z:γ),Prop}{F:∀(x:α) (y:β) (z:γ),Prop}{G:Prop}(h:∃x:α,∃y:β,A x y/\B x y/\C x y/\∃z:γ,D x y z/\F x y z)(k:∀(x:α) (y:β) (_:A x y) (_:B x y) (_:C x y) (z:γ) (_:D x y z) (_:F x y z),G):G:=eE h λ z q=>wu q (k z)
theorem b5 {α:Sort _}{β:Sort _}{γ:Sort _}{A:∀(x:α) (y:β) (z:γ),Prop}{B:∀(x:α) (y:β) (z:γ),Prop}{C:∀(x:α) (y:β) (z:γ),Prop}{D:∀(x:α) (y:β) (z:γ),Prop}{F:∀(x:α) (y:β) (z:γ),Prop}{G:Prop}(h:∃x:α,∃y:β,∃z:γ,A x y z/\B x y z/\C x y z/\D x y z/\F x y z)(k:∀(x:α) (y:β) (z:γ) (_:A x y z) (_:B x y z) (_:C x y z) (_:D x y z) (_:F x y z),G):G:=eE h λ z q=>dF q (k z)
theorem uB {α:Sort _}{β:Sort _}{γ:Sort _}{δ:Sort _}{ε:Sort _}{A:∀(x:α) (y:β) (z:γ) (w:δ) (v:ε),Prop}{B:∀(x:α) (y:β) (z:γ) (w:δ) (v:ε),Prop}{C:∀(x:α) (y:β) (z:γ) (w:δ) (v:ε),Prop}{G:Prop}(h:∃x:α,∃y:β,∃z:γ,∃w:δ,∃v:ε,A x y z w v/\B x y z w v/\C x y z w v)(k:∀(x:α) (y:β) (z:γ) (w:δ) (v:ε) (_:A x y z w v) (_:B x y z w v) (_:C x y z w v),G):G:=eE h λ z q=>i_ q (k z)
theorem r0 {A:Prop}{B:Prop}{C:Prop}{D:Prop}{F:Prop}{H:Prop}{I:Prop}{J:Prop}{K:Prop}{G:Prop}(h:A/\B/\C/\D/\F/\H/\I/\J/\K)(k:∀(_:A) (_:B) (_:C) (_:D) (_:F) (_:H) (_:I) (_:J) (_:K),G):G:=eA h λ z q=>uK q (k z)
theorem rZ {A:Prop}{B:Prop}{α:Sort _}{β:Sort _}{C:∀(x:α) (y:β),Prop}{D:∀(x:α) (y:β),Prop}{F:∀(x:α) (y:β),Prop}{H:∀(x:α) (y:β),Prop}{I:∀(x:α) (y:β),Prop}{G:Prop}(h:A/\B/\∃x:α,∃y:β,C x y/\D x y/\F x y/\H x y/\I x y)(k:∀(_:A) (_:B) (x:α) (y:β) (_:C x y) (_:D x y) (_:F x y) (_:H x y) (_:I x y),G):G:=eA h λ z q=>uH q (k z)
theorem rY {α:Sort _}{A:∀(x:α),Prop}{B:∀(x:α),Prop}{β:Sort _}{γ:Sort _}{C:∀(x:α) (y:β) (z:γ),Prop}{D:∀(x:α) (y:β) (z:γ),Prop}{F:∀(x:α) (y:β) (z:γ),Prop}{H:∀(x:α) (y:β) (z:γ),Prop}{G:Prop}(h:∃x:α,A x/\B x/\∃y:β,∃z:γ,C x y z/\D x y z/\F x y z/\H x y z)(k:∀(x:α) (_:A x) (_:B x) (y:β) (z:γ) (_:C x y z) (_:D x y z) (_:F x y z) (_:H x y z),G):G:=eE h λ z q=>uJ q (k z)
theorem rX {α:Sort _}{β:Sort _}{A:∀(x:α) (y:β),Prop}{B:∀(x:α) (y:β),Prop}{C:∀(x:α) (y:β),Prop}{D:∀(x:α) (y:β),Prop}{F:∀(x:α) (y:β),Prop}{H:∀(x:α) (y:β),Prop}{I:∀(x:α) (y:β),Prop}{G:Prop}(h:∃x:α,∃y:β,A x y/\B x y/\C x y/\D x y/\F x y/\H x y/\I x y)(k:∀(x:α) (y:β) (_:A x y) (_:B x y) (_:C x y) (_:D x y) (_:F x y) (_:H x y) (_:I x y),G):G:=eE h λ z q=>k5 q (k z)
theorem df {α:Sort _}{β:Sort _}{γ:Sort _}{A:∀(x:α) (y:β) (z:γ),Prop}{B:∀(x:α) (y:β) (z:γ),Prop}{C:∀(x:α) (y:β) (z:γ),Prop}{D:∀(x:α) (y:β) (z:γ),Prop}{F:∀(x:α) (y:β) (z:γ),Prop}{H:∀(x:α) (y:β) (z:γ),Prop}{G:Prop}(h:∃x:α,∃y:β,∃z:γ,A x y z/\B x y z/\C x y z/\D x y z/\F x y z/\H x y z)(k:∀(x:α) (y:β) (z:γ) (_:A x y z) (_:B x y z) (_:C x y z) (_:D x y z) (_:F x y z) (_:H x y z),G):G:=eE h λ z q=>dB q (k z)
theorem rW {α:Sort _}{β:Sort _}{γ:Sort _}{A:∀(x:α) (y:β) (z:γ),Prop}{B:∀(x:α) (y:β) (z:γ),Prop}{C:∀(x:α) (y:β) (z:γ),Prop}{δ:Sort _}{D:∀(x:α) (y:β) (z:γ) (w:δ),Prop}{F:∀(x:α) (y:β) (z:γ) (w:δ),Prop}{G:Prop}(h:∃x:α,∃y:β,∃z:γ,A x y z/\B x y z/\C x y z/\∃w:δ,D x y z w/\F x y z w)(k:∀(x:α) (y:β) (z:γ) (_:A x y z) (_:B x y z) (_:C x y z) (w:δ) (_:D x y z w) (_:F x y z w),G):G:=eE h λ z q=>uD q (k z)
theorem rV {α:Sort _}{β:Sort _}{γ:Sort _}{δ:Sort _}{A:∀(x:α) (y:β) (z:γ) (w:δ),Prop}{B:∀(x:α) (y:β) (z:γ) (w:δ),Prop}{C:∀(x:α) (y:β) (z:γ) (w:δ),Prop}{D:∀(x:α) (y:β) (z:γ) (w:δ),Prop}{F:∀(x:α) (y:β) (z:γ) (w:δ),Prop}{G:Prop}(h:∃x:α,∃y:β,∃z:γ,∃w:δ,A x y z w/\B x y z w/\C x y z w/\D x y z w/\F x y z w)(k:∀(x:α) (y:β) (z:γ) (w:δ) (_:A x y z w) (_:B x y z w) (_:C x y z w) (_:D x y z w) (_:F x y z w),G):G:=eE h λ z q=>b5 q (k z)
theorem l6 {α:Sort _}{β:Sort _}{γ:Sort _}{δ:Sort _}{ε:Sort _}{ζ:Sort _}{A:∀(x:α) (y:β) (z:γ) (w:δ) (v:ε) (u:ζ),Prop}{B:∀(x:α) (y:β) (z:γ) (w:δ) (v:ε) (u:ζ),Prop}{C:∀(x:α) (y:β) (z:γ) (w:δ) (v:ε) (u:ζ),Prop}{G:Prop}(h:∃x:α,∃y:β,∃z:γ,∃w:δ,∃v:ε,∃u:ζ,A x y z w v u/\B x y z w v u/\C x y z w v u)(k:∀(x:α) (y:β) (z:γ) (w:δ) (v:ε) (u:ζ) (_:A x y z w v u) (_:B x y z w v u) (_:C x y z w v u),G):G:=eE h λ z q=>uB q (k z)
theorem pL {A:Prop}{B:Prop}{C:Prop}{D:Prop}{F:Prop}{H:Prop}{I:Prop}{J:Prop}{K:Prop}{L:Prop}{G:Prop}(h:A/\B/\C/\D/\F/\H/\I/\J/\K/\L)(k:∀(_:A) (_:B) (_:C) (_:D) (_:F) (_:H) (_:I) (_:J) (_:K) (_:L),G):G:=eA h λ z q=>r0 q (k z)
theorem kZ {α:Sort _}{β:Sort _}{A:∀(x:α) (y:β),Prop}{B:∀(x:α) (y:β),Prop}{γ:Sort _}{δ:Sort _}{C:∀(x:α) (y:β) (z:γ) (w:δ),Prop}{D:∀(x:α) (y:β) (z:γ) (w:δ),Prop}{F:∀(x:α) (y:β) (z:γ) (w:δ),Prop}{H:∀(x:α) (y:β) (z:γ) (w:δ),Prop}{G:Prop}(h:∃x:α,∃y:β,A x y/\B x y/\∃z:γ,∃w:δ,C x y z w/\D x y z w/\F x y z w/\H x y z w)(k:∀(x:α) (y:β) (_:A x y) (_:B x y) (z:γ) (w:δ) (_:C x y z w) (_:D x y z w) (_:F x y z w) (_:H x y z w),G):G:=eE h λ z q=>rY q (k z)
theorem cY {α:Sort _}{β:Sort _}{γ:Sort _}{A:∀(x:α) (y:β) (z:γ),Prop}{B:∀(x:α) (y:β) (z:γ),Prop}{C:∀(x:α) (y:β) (z:γ),Prop}{D:∀(x:α) (y:β) (z:γ),Prop}{F:∀(x:α) (y:β) (z:γ),Prop}{H:∀(x:α) (y:β) (z:γ),Prop}{I:∀(x:α) (y:β) (z:γ),Prop}{G:Prop}(h:∃x:α,∃y:β,∃z:γ,A x y z/\B x y z/\C x y z/\D x y z/\F x y z/\H x y z/\I x y z)(k:∀(x:α) (y:β) (z:γ) (_:A x y z) (_:B x y z) (_:C x y z) (_:D x y z) (_:F x y z) (_:H x y z) (_:I x y z),G):G:=eE h λ z q=>rX q (k z)
theorem kX {α:Sort _}{β:Sort _}{γ:Sort _}{δ:Sort _}{A:∀(x:α) (y:β) (z:γ) (w:δ),Prop}{B:∀(x:α) (y:β) (z:γ) (w:δ),Prop}{C:∀(x:α) (y:β) (z:γ) (w:δ),Prop}{D:∀(x:α) (y:β) (z:γ) (w:δ),Prop}{F:∀(x:α) (y:β) (z:γ) (w:δ),Prop}{H:∀(x:α) (y:β) (z:γ) (w:δ),Prop}{G:Prop}(h:∃x:α,∃y:β,∃z:γ,∃w:δ,A x y z w/\B x y z w/\C x y z w/\D x y z w/\F x y z w/\H x y z w)(k:∀(x:α) (y:β) (z:γ) (w:δ) (_:A x y z w) (_:B x y z w) (_:C x y z w) (_:D x y z w) (_:F x y z w) (_:H x y z w),G):G:=eE h λ z q=>df q (k z)
theorem ot {A:Prop}{B:Prop}{C:Prop}{D:Prop}{F:Prop}{H:Prop}{I:Prop}{J:Prop}{K:Prop}{L:Prop}{M:Prop}{G:Prop}(h:A/\B/\C/\D/\F/\H/\I/\J/\K/\L/\M)(k:∀(_:A) (_:B) (_:C) (_:D) (_:F) (_:H) (_:I) (_:J) (_:K) (_:L) (_:M),G):G:=eA h λ z q=>pL q (k z)
theorem oq {A:Prop}{α:Sort _}{β:Sort _}{γ:Sort _}{δ:Sort _}{B:∀(x:α) (y:β) (z:γ) (w:δ),Prop}{C:∀(x:α) (y:β) (z:γ) (w:δ),Prop}{D:∀(x:α) (y:β) (z:γ) (w:δ),Prop}{F:∀(x:α) (y:β) (z:γ) (w:δ),Prop}{H:∀(x:α) (y:β) (z:γ) (w:δ),Prop}{I:∀(x:α) (y:β) (z:γ) (w:δ),Prop}{G:Prop}(h:A/\∃x:α,∃y:β,∃z:γ,∃w:δ,B x y z w/\C x y z w/\D x y z w/\F x y z w/\H x y z w/\I x y z w)(k:∀(_:A) (x:α) (y:β) (z:γ) (w:δ) (_:B x y z w) (_:C x y z w) (_:D x y z w) (_:F x y z w) (_:H x y z w) (_:I x y z w),G):G:=eA h λ z q=>kX q (k z)
theorem oo {α:Sort _}{β:Sort _}{γ:Sort _}{δ:Sort _}{ε:Sort _}{A:∀(x:α) (y:β) (z:γ) (w:δ) (v:ε),Prop}{B:∀(x:α) (y:β) (z:γ) (w:δ) (v:ε),Prop}{C:∀(x:α) (y:β) (z:γ) (w:δ) (v:ε),Prop}{D:∀(x:α) (y:β) (z:γ) (w:δ) (v:ε),Prop}{F:∀(x:α) (y:β) (z:γ) (w:δ) (v:ε),Prop}{H:∀(x:α) (y:β) (z:γ) (w:δ) (v:ε),Prop}{G:Prop}(h:∃x:α,∃y:β,∃z:γ,∃w:δ,∃v:ε,A x y z w v/\B x y z w v/\C x y z w v/\D x y z w v/\F x y z w v/\H x y z w v)(k:∀(x:α) (y:β) (z:γ) (w:δ) (v:ε) (_:A x y z w v) (_:B x y z w v) (_:C x y z w v) (_:D x y z w v) (_:F x y z w v) (_:H x y z w v),G):G:=eE h λ z q=>kX q (k z)
theorem nk {A:Prop}{B:Prop}{α:Sort _}{β:Sort _}{γ:Sort _}{δ:Sort _}{C:∀(x:α) (y:β) (z:γ) (w:δ),Prop}{D:∀(x:α) (y:β) (z:γ) (w:δ),Prop}{F:∀(x:α) (y:β) (z:γ) (w:δ),Prop}{H:∀(x:α) (y:β) (z:γ) (w:δ),Prop}{I:∀(x:α) (y:β) (z:γ) (w:δ),Prop}{J:∀(x:α) (y:β) (z:γ) (w:δ),Prop}{G:Prop}(h:A/\B/\∃x:α,∃y:β,∃z:γ,∃w:δ,C x y z w/\D x y z w/\F x y z w/\H x y z w/\I x y z w/\J x y z w)(k:∀(_:A) (_:B) (x:α) (y:β) (z:γ) (w:δ) (_:C x y z w) (_:D x y z w) (_:F x y z w) (_:H x y z w) (_:I x y z w) (_:J x y z w),G):G:=eA h λ z q=>oq q (k z)
theorem nj {α:Sort _}{A:∀(x:α),Prop}{B:∀(x:α),Prop}{C:∀(x:α),Prop}{D:∀(x:α),Prop}{F:∀(x:α),Prop}{H:∀(x:α),Prop}{I:∀(x:α),Prop}{J:∀(x:α),Prop}{K:∀(x:α),Prop}{L:∀(x:α),Prop}{M:∀(x:α),Prop}{G:Prop}(h:∃x:α,A x/\B x/\C x/\D x/\F x/\H x/\I x/\J x/\K x/\L x/\M x)(k:∀(x:α) (_:A x) (_:B x) (_:C x) (_:D x) (_:F x) (_:H x) (_:I x) (_:J x) (_:K x) (_:L x) (_:M x),G):G:=eE h λ z q=>ot q (k z)
theorem ω0 {a b:Nat}(h1:a - b=0):a - b=0:=h1
theorem ω1 {a b:Nat}(h1:b<a):0<(↑a:Int) - (↑b:Int):=by simp+arith [h1]
theorem ω2 {a b:Nat}:(↑a:Int) - (↑b:Int) - 1=(↑a:Int) - (↑(b+1):Int):=by simp+arith
theorem ω3 {a b:Nat}(h1:a<=b):(↑a:Int) - (↑b:Int)<=0:=by lia
theorem ω4 {a b c:Nat}(h1:a+c<b):a<b:=dI (aZ _ _) h1
theorem ω5 {a b c d:Nat}(h1:a+d<c)(h2:b+1<=d):a+1+b<c:=by lia
theorem ω6 {a b c d:Nat}(h1:a+8*d+200<c)(h2:b+1<=d):a+3+8*b+200<c:=by lia
theorem ω7 {a b:Nat}(h1:b=a+1):a+1<=b:=Nat.le_of_eq h1.symm
theorem ω8 {a:Nat}(h1:91<=a):90<a:=h1
theorem ω9 {a:Nat}(h1:a<=64):a<65:=Nat.succ_le_succ h1
theorem ω10 {a:Nat}(h1:a<=126):a<127:=Nat.succ_le_succ h1
theorem ω11 {a:Nat}(h1:a<=1000):a<=5592405:=Nat.le_add_left_of_le h1
theorem ω12 {a b c:Nat}(h1:a=c)(h2:c<=b):a<=b:=h1▸h2
theorem je {a:Nat}(h1:a<=16777216):a<=16777216:=h1
theorem ω14 {a b:Nat}(h1:a=b)(h2:b<=16777216):a<=16777216:=h1▸h2
theorem ω15 {a b:Nat}(h1:a<=b)(h2:b<=4000):a+1<4096:=by lia
theorem ω16 {a b:Nat}(h1:a<=b):a<=b:=h1
theorem ω17:0<4096:=by decide
theorem ω18 {a b:Nat}(h1:a<=b+1):a<=b+1:=h1
theorem ω19 {a b c:Nat}(h1:a<=c+1)(h2:c<=b):a<=b.succ:=Nat.le_trans h1 (Nat.succ_le_succ h2)
theorem ω20 {a b:Nat}:a<b+(a+1 - b):=by omega
theorem ω21 {a b:Nat}(h1:¬b<a):a<=b:=Nat.le_of_not_lt h1
theorem ω22 {a b c:Nat}(h1:a<=b+1)(h2:b<=c)(h3:c<=900):a<=1000:=by lia
theorem ω23 {a b:Nat}(h1:a=b):a<=b.succ:=by rw[h1];exact Nat.le_succ _
theorem ω24 {a b c d:Nat}(h1:a+1=d)(h2:d+b=c):a+b+1=c:=by subst h1 h2;exact(Nat.succ_add _ _).symm
theorem ω25 {a b c:Nat}(h1:c+1=b)(h2:c=a):a+1=b:=h2▸h1
theorem ω26 {a b c d e:Nat}(h1:a+e<d)(h2:b<=1)(h3:e=c+1+1):a+b+(c+1)<d:=by subst h3;lia
theorem ω27 {a b c d e:Nat}(h1:a+8*e+200<d)(h2:b<=4)(h3:e=c+1+1):a+b+8*(c+1)+200<d:=by subst h3;lia
theorem ω28 {a:Int}(h1:-1073741824<a/\a<1073741824):-2 ^ 64<a:=by lia
theorem ω30 {a b:Nat}(h1:a=b)(h2:b<=16777216):(↑a:Int)<2 ^ 63:=by subst h1;lia
theorem ω31 {a:Int}(h1:-1073741824<a/\a<1073741824):a<2 ^ 64:=by lia
theorem ω32 {a b:Nat}(h1:b=a)(h2:b<=16777216):a<=16777216:=h1▸h2
theorem vh {a b:Nat}:a+1+b=a+(b+1):=Nat.succ_add _ _
theorem ω34 {a:Nat}(h1:1<a):1<a+1:=Nat.le_succ_of_le h1
theorem ω35 {a b:Nat}(h1:a=b+1):1<a+1:=by rw[h1];exact Nat.le_add_left _ _
theorem xX {a b:Nat}(h1:1<b)(h2:a=b+1):1<a:=by rw[h2];exact Nat.le_succ_of_le h1
theorem ω37 {a b:Nat}(h1:a+1<=a/\a<a+1+b):False:=by lia
theorem ω38 {a b:Nat}(h1:a<b)(h2:a=b):False:=by subst h2;exact aM _ h1
theorem ω39 {a b c d:Nat}(h1:a+1<=b/\b<a+1+c)(h2:a=d+1)(h3:b<d):False:=by lia
theorem ω40 {a b c:Nat}(h1:a<c)(h2:b=c+1):a<=b:=by subst h2;lia
theorem ω41 {a b:Nat}:a<=a.succ+b:=by simp+arith
theorem ω42 {a b:Nat}:a.succ+b - a=b+1:=by lia
theorem ω43 {a b:Nat}(h1:a<b):a<b:=h1
theorem ω44 {a b:Nat}:a+1+1*b=a+1+b:=by simp+arith
theorem ω45 {a b:Nat}(h1:a=b):a<=b:=Nat.le_of_eq h1
theorem ω46 {a b c:Nat}(h1:a<c)(h2:b=c+1):¬a=b:=by lia
theorem ω47 {a b c:Nat}(h1:a<=c)(h2:b=c):min a b=a:=by simp+arith [h1,h2]
theorem ω48 {a b c:Nat}(h1:a=c)(h2:c<=16777216):a - b<=16777216:=by subst h1;lia
theorem ω49 {a b:Nat}(h1:a<=b):min a b=a:=by simp+arith [h1]
theorem ω50 {a b:Nat}(h1:b=a+1):a<=b:=by rw[h1];exact Nat.le_succ _
theorem ω51 {a b c:Nat}(h1:a+(c+1)<=b):a<b:=dI (aZ _ _) h1
theorem sk {a b:Nat}:a<=a+b:=aZ _ _
theorem ω53 {a b:Nat}:a+b - a=b:=by simp+arith
theorem ω54 {a b c:Nat}(h1:a=c)(h2:c<=b):0+a<=b:=by simp+arith [h1,h2]
theorem ω55 {a b c:Nat}(h1:a+(b+1)<=c):a+1+b<=c:=by simp+arith at h1 ⊢;assumption
theorem ω56 {a:Nat}(h1:3<a):1<a+1:=by lia
theorem ω57 {a b c d:Nat}(h1:a+d<c)(h2:b+1<=d):a+b<c:=Nat.lt_trans (Nat.add_le_add_left h2 _) h1
theorem ω58 {a b c d:Nat}(h1:a+8*d+200<c)(h2:b+1<=d):a+1+8*b+200<c:=by lia
theorem ω59 {a:Nat}(h1:a<=126):a<1114112:=dI h1 (aO rfl)
theorem ω60 {a:Nat}(h1:a<=1):max (0+1) a<=1:=by simp+arith [h1]
theorem ω61 {a:Nat}(h1:a<=1):a<=63:=Nat.le_add_left_of_le h1
theorem ω62 {a b c:Nat}(h1:a+8*c+200<b):a+64<b:=by lia
theorem ω63 {a b c:Nat}(h1:a+8*c+200<b):a+1<b:=by lia
theorem ω64 {a b:Int}(h1:a<b):a<=b:=Int.le_of_lt h1
theorem ω65 {a b c:Nat}(h1:a - c=0)(h2:c=b)(h3:c<=a):a=b:=by grind
theorem ω66 {a b:Nat}(h1:b=a)(h2:b<=63):a<64:=by subst h1;exact Nat.succ_le_succ h2
theorem ω67 {a b c:Int}(h1:a<=c)(h2:c<=b):a<=b:=by lia
theorem ω68 {a b:Int}(h1:a<=b):a<=b:=h1
theorem ω69 {a b:Nat}(h1:b=a)(h2:b<=63):a<=16777216:=by subst h1;lia
theorem ω70 {a:Int}{b:Nat}(h1:-(↑b:Int)<=a/\a<(↑b:Int))(h2:b<=16777216):¬a< -2 ^ 63/\¬2 ^ 63<=a:=by lia
theorem ω71 {a:Int}{b:Nat}(h1:a.toNat<b)(h2:b<=16777216):a<2 ^ 63:=by lia
theorem ω72 {a c:Nat}{b:Int}(h1:-(↑c:Int)<=b)(h2:a=c):-(↑a:Int)<=b:=h2▸h1
theorem ω73 {a:Int}{b:Nat}(h1:-(↑b:Int)<=a)(h2:b<=16777216):-2 ^ 63<=a:=by lia
theorem ω74 {a b:Nat}(h1:b+1<=a):a - (b+1)<a:=by omega
theorem ω75 {a:Int}{b:Nat}(h1:-(↑b:Int)<=a/\a<(↑b:Int))(h2:b<=16777216):-2 ^ 63<=a:=by lia
theorem ω76 {a:Int}{b:Nat}(h1:-(↑b:Int)<=a/\a<(↑b:Int))(h2:b<=16777216):a<2 ^ 63:=by lia
theorem ω77 {a b:Nat}(h1:a<b):0<=(↑a:Int)/\(↑a:Int)<(↑b:Int)/\a=(↑a:Int).toNat:=by simp+arith [h1]
theorem ω78 {a b c:Nat}(h1:a+1<=b)(h2:c=b - (a+1)):-((↑a:Int)+1)<0/\-(↑b:Int)<=-((↑a:Int)+1)/\c=(-((↑a:Int)+1)+(↑b:Int)).toNat:=by grind
theorem ω79 {a:Int}(h1:0<=a):¬a<0:=Int.not_lt.mpr h1
theorem ω80 {a:Int}{b:Nat}(h1:a.toNat<b)(h2:¬a<0):0<=a/\a<(↑b:Int):=by lia
theorem ω81 {a:Int}{b:Nat}(h1:(a+(↑b:Int)).toNat<b)(h2:-(↑b:Int)<=a):0<=a+(↑b:Int)/\a+(↑b:Int)<(↑b:Int):=by lia
theorem ω82 {a:Nat}:1+(↑a:Int)=(↑a.succ:Int):=by simp+arith
theorem ω83 {a:Nat}:0+(↑a:Int)=(↑a:Int):=by simp+arith
theorem ω84 {a b:Nat}(h1:a=b)(h2:b<=1000):a*1000<=16777216:=by subst h1;lia
theorem xW {a:Nat}(h1:a<=16777216):(↑a:Int)<2 ^ 63:=by lia
theorem ω86 {a b:Nat}(h1:a<=b):a=min b a:=by simp+arith [h1]
theorem ω87 {a b:Nat}(h1:a<=b)(h2:b<=16777216):a<=16777216:=Nat.le_trans h1 h2
theorem ω88 {a b:Nat}(h1:a<b):a=min a b:=by lia
theorem ω89 {a:Nat}:1<=a+1:=Nat.succ_pos _
theorem ω90 {a:Nat}:-((↑a:Int)+1)=-(↑(a+1):Int):=rfl
theorem ω91 {a b:Nat}{c:Int}(h1:(↑a:Int)=max 0 (min c (↑b:Int))):a<=b:=by lia
theorem ω92 {a b c:Nat}(h1:0<b)(h2:c - a=b)(h3:c<=b):a=0:=by subst h2;lia
theorem ω93 {a b c:Nat}:min (a - b) (c - b)<=c:=by lia
theorem ω94 {a b c d:Nat}(h1:a=b):a<=b+(c - d):=by rw[h1];exact aZ _ _
theorem ω95 {a b c d:Nat}(h1:d=b)(h2:¬c<a):a+(b+(c - a) - d)=c:=by subst h1;omega
theorem ω96 {a b c d e:Nat}(h1:a=d)(h2:b=e):a+(b - c)=d+(e - c):=by rw[h1,h2]
theorem ω97 {a b c:Nat}(h1:a<c)(h2:c<=b):a<b:=Nat.le_trans h1 h2
theorem ω98 {a b c:Nat}(h1:a<c)(h2:b=c):a<b:=h2▸h1
theorem ω99 {a b c d e:Nat}(h1:b<c+(e - a))(h2:d=e)(h3:¬b<c):a+(b - c)<d:=by subst h2;omega
theorem xp {a b c:Nat}:¬a+(b - c)<a:=by simp+arith
theorem ω101 {a b c:Nat}(h1:¬a<b):a=b+(c+(a - b) - c):=by omega
theorem xo {a b c:Nat}(h1:a=b)(h2:b+c<=1000):a<=16777216:=by subst h1;lia
theorem xn {a b c d:Nat}(h1:a=c)(h2:b=d)(h3:c+d<=1000):a+b<=16777216+1:=by subst h1 h2;lia
theorem ω104 {a b:Nat}(h1:b<a):a - 1 - b<a:=by omega
theorem ω105 {a b:Nat}(h1:a+b<=1000):a+b<=16777216:=Nat.le_add_left_of_le h1
theorem gG {a:Nat}(h1:a<=1000):a<=16777216:=Nat.le_add_left_of_le h1
theorem ω107 {a:Nat}(h1:a<=63):a<=16777216:=Nat.le_add_left_of_le h1
theorem ω108 {a b c:Nat}(h1:a+(b+c)<=1000):a+b<=1000:=by lia
theorem ω109 {a b c:Nat}(h1:a+(b+c)<=1000):a+b+c<=1000:=by simp+arith at h1;exact h1
theorem ω110 {a b:Nat}(h1:¬b<a):a+(b - a)=b:=by grind
theorem ω111 {a:Nat}(h1:a<=999):a<=16777216:=Nat.le_add_left_of_le h1
theorem xm {a b:Nat}:a<=a+1+b:=Nat.le_trans (aZ _ _) (aZ _ _)
theorem xl {a b c:Nat}(h1:b<c):a+1+b<=a+c:=by simp+arith at h1 ⊢;assumption
theorem ej {a b:Nat}(h1:a<b)(h2:b<=a):False:=aM _ (aN h1 h2)
theorem ω115 {a b c:Nat}(h1:a<b):a<b+1+c:=by lia
theorem ω116 {a b c:Nat}(h1:a<=b+c):a<b+1+c:=by simp+arith [h1]
theorem ω117 {a b c:Nat}(h1:b=a):a+1<=b+1+c:=by rw[h1];exact aZ _ _
theorem ω118 {a b c d:Nat}(h1:a=c)(h2:b<d):a+1+b - (c+1)<d:=by subst h1;simp+arith at*;assumption
theorem ω119 {a b c d:Nat}(h1:c=d+1+a)(h2:c=d+1+b):a=b:=by subst h1;exact Nat.add_left_cancel h2
theorem xk {a b:Nat}(h1:a<b):a<b+1:=Nat.le_succ_of_le h1
theorem ω121 {a b:Nat}(h1:a=b)(h2:b<=16777216):¬2 ^ 63<=(↑a:Int):=by subst h1;lia
theorem ω122 {a b:Nat}(h1:a<b)(h2:b<=16777216):(↑a:Int)<2 ^ 63:=by lia
theorem ω123 {a b c:Nat}(h1:a<c)(h2:b=c):(↑a:Int)<(↑b:Int):=by rw[h2];exact Int.ofNat_lt.mpr h1
theorem ω124 {a:Nat}(h1:a<=16777216):¬2 ^ 63<=(↑a:Int):=by lia
theorem ω125 {a b:Nat}(h1:a+b<=1000):a<=1000:=Nat.le_trans (aZ _ _) h1
theorem ω126 {a b:Nat}(h1:b+a<=1000):a<=16777216:=by lia
theorem xj {a b:Nat}:a+(b+1)=a.succ+b:=(Nat.succ_add _ _).symm
theorem xi {a b c:Nat}(h1:a=c):a+(b - a)<=c+(b - c):=by rw[h1];exact Nat.le_refl _
theorem xh {a b c:Nat}(h1:a<b):a<b+c:=Nat.lt_add_right _ h1
theorem ω130 {a b c:Nat}(h1:b<c):a+b - a<c:=by simp+arith at h1 ⊢;assumption
theorem ω131 {a b c d:Nat}(h1:c=d+a)(h2:c=d+b):a=b:=by subst h1;exact Nat.add_left_cancel h2
theorem xg {a b c:Nat}(h1:b<c):a+b<a+c:=Nat.add_le_add_left h1 _
theorem ω133 {a b c:Nat}(h1:a+(c+1)<=b):a+(b - a)=b:=by lia
theorem ω134 {a b c:Nat}(h1:b<c)(h2:c=a):a - b=a - (b+1)+1:=by subst h2;lia
theorem xf {a b:Nat}:a+(b+1)=a+1+b:=(Nat.succ_add _ _).symm
theorem ω136 {a b c:Nat}(h1:¬c<a):a+(b+(c - a) - b)=c:=by omega
theorem ω137 {a b c d e f:Nat}(h1:c<d)(h2:c=e)(h3:e=d+(b - f)):a=b:=by subst h2;lia
theorem ω138 {a b c d e f:Nat}(h1:c<d)(h2:e=c)(h3:e=d+(a - f)):a=b:=by subst h2;lia
theorem ω139 {a b c d e f:Nat}(h1:c=d+(a - e))(h2:c=f)(h3:e<=a)(h4:e<=b)(h5:f=d+(b - e)):a=b:=by grind
theorem ω140 {a b c:Nat}:a<=a+(b - c):=aZ _ _
theorem ω141 {a b c d:Nat}(h1:c<d)(h2:d<=c):a=b:=by lia
theorem ω142 {a b:Nat}:a+3+b=a+(b+3):=Nat.add_right_comm _ _ _
theorem ω143 {a:Nat}:3+a=a+3:=Nat.add_comm _ _
theorem ω144 {a:Nat}:4+a=a+4:=Nat.add_comm _ _
theorem xe {a b c d:Nat}(h1:a<b):a<b+(c - d):=Nat.lt_add_right _ h1
theorem ω146 {a b c d:Nat}(h1:b<d)(h2:¬b<c):a+(b - c)<a+(d - c):=by grind
theorem ω147 {a:Nat}:6+3*a=4+2+3*a:=rfl
theorem ω148 {a:Nat}:5+3*a=3*a+1+4:=Nat.add_comm _ _
theorem ω149 {a:Nat}:6+3*a=3*a+2+4:=Nat.add_comm _ _
theorem ω150 {a:Nat}:3*(a+1)=3*a+1+1+1:=rfl
theorem xd {a b:Nat}:a+3+3*b=a+3*(b+1):=Nat.add_right_comm _ _ _
theorem ω152 {a b:Nat}:a+3+1+3*b=a+1+3*(b+1):=by simp+arith
theorem ω153 {a b:Nat}:a+3+2+3*b=a+2+3*(b+1):=by simp+arith
theorem ω154 {a:Nat}:3*(a+1)=3*a+3:=rfl
theorem ω155 {a:Nat}:4+1+3*a=5+3*a:=rfl
theorem ω156 {a:Nat}:4+2+3*a=6+3*a:=rfl
theorem ω157 {a:Nat}:4+3*a=3*a+1+1+1+1:=Nat.add_comm _ _
theorem ω158 {a b c:Nat}(h1:4+3*c<=b)(h2:a<c):¬4+3*a=b:=by lia
theorem ω159 {a:Nat}:¬4+3*a=0:=by lia
theorem ω160 {a:Nat}:¬4+3*a=1:=by simp+arith
theorem ω161 {a b:Nat}:a+1+(3*b+3)=a+3+1+3*b:=by simp only[Nat.add_assoc,Nat.add_comm,Nat.add_left_comm]
theorem ω162 {a:Nat}:¬4+3*a=2:=by simp+arith
theorem ω163 {a:Nat}:¬4+3*a=3:=by simp+arith
theorem ω164 {a:Nat}:¬4+3*a=5+3*a:=by simp+arith
theorem ω165 {a:Nat}:¬4+3*a=6+3*a:=by simp+arith
theorem ω166 {a b:Nat}(h1:¬a=b):¬4+3*a=4+3*b:=by lia
theorem ω167 {a b:Nat}:¬4+3*a=5+3*b:=by lia
theorem ω168 {a b:Nat}:¬4+3*a=6+3*b:=by lia
theorem ω169:¬3=0:=by decide
theorem ω170 {a b:Nat}:a+2+(3*b+3)=a+3+2+3*b:=by simp only[Nat.add_assoc,Nat.add_comm,Nat.add_left_comm]
theorem ω171:¬3=1:=by decide
theorem ω172:¬3=2:=by decide
theorem ω173 {a b:Nat}(h1:4+3*b<=a):¬3=a:=by lia
theorem ω174 {a:Nat}:¬3=4+3*a:=by simp+arith
theorem ω175 {a:Nat}:¬3=5+3*a:=by simp+arith
theorem ω176 {a:Nat}:¬3=6+3*a:=by simp+arith
theorem ω177 {a b:Nat}(h1:4+3*b<=a):¬1=a:=by lia
theorem ω178:¬1=0:=by decide
theorem ω179:¬1=2:=by decide
theorem ω180 {a:Nat}:3*(a+1)+1=3*a+1+3:=rfl
theorem ω181:¬1=3:=by decide
theorem ω182 {a:Nat}:¬1=4+3*a:=by simp+arith
theorem ω183 {a:Nat}:¬1=5+3*a:=by simp+arith
theorem ω184 {a:Nat}:¬1=6+3*a:=by simp+arith
theorem ω185 {a:Nat}:3*(a+1)+2=3*a+2+3:=rfl
theorem ω186 {a:Nat}:4+3*a=3*a+4:=Nat.add_comm _ _
theorem ω187 {a:Nat}:5+3*a=4+1+3*a:=rfl
theorem xc {a:Nat}(h1:a<64):a<=1000:=by lia
theorem ω189 {a:Nat}(h1:a<64):a<=16777216:=by lia
theorem ω190 {a b c d:Nat}(h1:a<=d+c)(h2:d<=b+1):a<=b+(c+1):=by lia
theorem ω191 {a:Nat}(h1:a<50):a<64:=Nat.lt_add_left _ h1
theorem ω192 {a b:Nat}(h1:a<=400)(h2:b<50):a+b<=500:=by lia
theorem ω193 {a b c:Nat}(h1:a<=b+c)(h2:c<50):a<=b+50:=by lia
theorem ω194 {a b:Nat}(h1:a+50*(b+1)<=400):a<=400:=Nat.le_trans (aZ _ _) h1
theorem ω195 {a b:Nat}(h1:a+(b+1)<=900):a<=900:=Nat.le_trans (aZ _ _) h1
theorem ω196 {a b c:Nat}(h1:a<=c+50)(h2:c+50*(b+1)<=400):a+50*b<=400:=by lia
theorem ω197 {a b c:Nat}(h1:a=c+1)(h2:c+(b+1)<=900):a+b<=900:=by subst h1;simp+arith at*;assumption
theorem sz {a:Nat}(h1:a<=5):a<64:=dI h1 (aO rfl)
theorem ω199 {a b:Nat}(h1:a<=100)(h2:b<=5):a+50*b<=400:=by lia
theorem ω200 {a b:Nat}(h1:a<=800)(h2:b<=5):a+b<=900:=by lia
theorem ω201 {a:Nat}(h1:a<=5):a<=16777215:=Nat.le_add_left_of_le h1
theorem ω202 {a:Nat}(h1:a<=500):a<=1000:=Nat.le_add_left_of_le h1
theorem ω203 {a b:Nat}(h1:a+(b+1)<=500):a<=500:=Nat.le_trans (aZ _ _) h1
theorem ω204 {a b c:Nat}(h1:a<=c+1)(h2:c+(b+1)<=500):a+b<=500:=by lia
theorem ω205 {a b c:Int}:a+(b+c)=a+c+b:=by simp+arith
theorem ω206 {a:Nat}(h1:a<=4096):a<=2 ^ 24:=Nat.le_trans h1 (aO rfl)
theorem ω207 {a b:Nat}(h1:a+b<=16777216):a+b<=16777216:=h1
theorem ω208 {a b c:Int}(h1:((-1073741824<b/\b<1073741824)/\-1073741824<c/\c<1073741824)/\-1073741824<a/\a<1073741824):a.natAbs<1073741824:=by omega
theorem ω209 {a:Nat}:a<=a+1:=Nat.le_succ _
theorem ω210 {a:Nat}:a+1 - a=1:=by simp+arith
theorem ω211 {a b:Nat}(h1:b=a+1∨b=a∨b=a+2):a<=b:=by lia
theorem jA {a:Nat}(h1:a<=5):a<=1000:=Nat.le_add_left_of_le h1
theorem ω252 {a b:Nat}(h1:b<a):1<=a:=Nat.zero_lt_of_lt h1
theorem xb {a:Nat}(h1:a<=100):a<=1000:=Nat.le_add_left_of_le h1
theorem ω269 {a b c:Nat}(h1:a<=5)(h2:b<=5*c):a+b<=5*(c+1):=by lia
theorem ω286 {a:Nat}(h1:a<=5):a<=100:=Nat.le_add_left_of_le h1
theorem v1 {α:Type u}{P:List α->List α->Prop}(k:∀a,P [a] [])(k':∀a y ys,P [a] (y::ys)):∀xs ys,xs.length=1->P xs ys
 |[a],[],_=>k a
 |[a],y::ys,_=>k' a y ys
theorem v2 {α:Type u}{P:List α->List α->Prop}(k:∀a b,P [a,b] [])(k':∀a b y ys,P [a,b] (y::ys)):∀xs ys,xs.length=2->P xs ys
 |[a,b],[],_=>k a b
 |[a,b],y::ys,_=>k' a b y ys
theorem l1 {α:Type u}{P:List α->Prop}(k:∀a,P [a]):∀xs,xs.length=1->P xs
 |[a],_=>k a
theorem l2 {α:Type u}{P:List α->Prop}(k:∀a b,P [a,b]):∀xs,xs.length=2->P xs
 |[a,b],_=>k a b
theorem l3 {α:Type u}{P:List α->Prop}(k:∀a b c,P [a,b,c]):∀xs,xs.length=3->P xs
 |[a,b,c],_=>k a b c
theorem oT {α:Type u}{b:Bool}{t:Option α}{v:α}(h:(match b with|true=>t|false=>none)=some v):b=true/\t=some v:=by
 cases b with
 |true=>exact⟨rfl,h⟩
 |false=>cases h
theorem rM {α β:Type u}{o:Option α}{f:α->Option β}{v:β}(h:o.bind f=some v):∃k,o=some k/\f k=some v:=by
 cases o with
 |some k=>exact⟨k,rfl,h⟩
 |none=>cases h
theorem ffE {p:Prop}(h:false=true):p:=Bool.noConfusion h
theorem nsE {p:Prop}{α:Type u}{a:α}(h:none=some a):p:=Option.noConfusion rfl (heq_of_eq h)
theorem snE {p:Prop}{α:Type u}{a:α}(h:some a=none):p:=Option.noConfusion rfl (heq_of_eq h)
theorem siE {p:Prop}{α:Type u}{a b:α}(h:some a=some b)(k:a=b->p):p:=k (aj h)
local macro_rules
 |`(tactic|cases $h:ident)=>`(tactic|first|exact ffE $h|exact nsE $h|exact snE $h|subst $h|(refine siE $h λ z=>?_;clear $h;subst z)|cases($h))
local macro_rules
 |`(tactic|rewrite[← $t:term])=>`(tactic|first|refine rwr $t ?_|rewrite[← $t]at ⊢)
 |`(tactic|rewrite[$t:term])=>`(tactic|first|refine rwl $t ?_|rewrite[$t:term]at ⊢)
 |`(tactic|rewrite[$r,$rs,*])=>`(tactic|(rewrite[$r];rewrite[$rs,*]))
theorem wx {A:Prop}{α:Sort _}{β:Sort _}{B:∀(x:α) (y:β),Prop}{G:Prop}(h:A/\∃x:α,∃y:β,B x y)(k:∀(_:A) (x:α) (y:β) (_:B x y),G):G:=eA h λ z q=>vf q (k z)
theorem qQ {α:Sort _}{β:Sort _}{γ:Sort _}{δ:Sort _}{A:∀(x:α) (y:β) (z:γ) (w:δ),Prop}{G:Prop}(h:∃x:α,∃y:β,∃z:γ,∃w:δ,A x y z w)(k:∀(x:α) (y:β) (z:γ) (w:δ) (_:A x y z w),G):G:=eE h λ z q=>wr q (k z)
theorem uC {α:Sort _}{β:Sort _}{γ:Sort _}{δ:Sort _}{A:∀(x:α) (y:β) (z:γ) (w:δ),Prop}{B:∀(x:α) (y:β) (z:γ) (w:δ),Prop}{C:∀(x:α) (y:β) (z:γ) (w:δ),Prop}{D:∀(x:α) (y:β) (z:γ) (w:δ),Prop}{G:Prop}(h:∃x:α,∃y:β,∃z:γ,∃w:δ,A x y z w/\B x y z w/\C x y z w/\D x y z w)(k:∀(x:α) (y:β) (z:γ) (w:δ) (_:A x y z w) (_:B x y z w) (_:C x y z w) (_:D x y z w),G):G:=eE h λ z q=>eI q (k z)
theorem ω400 {a b:Nat}(h1:a<b)(h2:b<=16777216):(↑a:Int)<9223372036854775808:=by omega
theorem ω401 {a:Int}{b c:Nat}(h1:0<=a/\a<(↑b:Int))(h2:b<c)(h3:c<=5):0<=a/\a<5:=by omega
theorem ω402 {a b:Nat}(h1:a<=b)(h2:b<=5):a<50:=by lia
theorem xa {a:Nat}(h1:1+a=0):False:=by lia
theorem ω404 {a:Nat}(h1:5<=a):a=a - 2+2:=by lia
theorem ω405 {a:Int}(h1:a=0∨a=1∨a=2∨a=3):0<=a/\a<(↑4:Int):=by omega
theorem ω406 {a:Int}(h1:a=0∨a=1∨a=2∨a=3∨a=4):0<=a/\a<(↑5:Int):=by omega
theorem w_ {a:Int}{b:Nat}(h1:0<=a/\a<(↑b:Int)):a.toNat<b:=by omega
theorem w9 {a:Int}{b:Nat}(h1:0<=a/\a<(↑b:Int)):(↑a.toNat:Int)=a:=by lia
theorem ω409 {a b:Int}(h1:0<=a/\a<(↑b.toNat:Int)):0<=a/\a<b:=by omega
theorem ω410 {a b c d:Nat}(h1:b<=5/\4<=b)(h2:c<=b/\d<=b/\a<=b):a<=5:=by lia
theorem ω411 {a b c:Nat}(h1:a<=5+2*b)(h2:b<c)(h3:c<=5/\4<=c):a<=800:=by lia
theorem ω412 {a b c d:Nat}(h1:a=b+1)(h2:b<=5+2*c)(h3:c<d)(h4:d<=5/\4<=d):a<=800:=by(try subst_vars);lia
theorem ω413 {a b c:Nat}(h1:c+1=b):(↑a:Int)<(↑a:Int)+(↑b:Int):=by(try subst_vars);simp+arith [*]
theorem ω414 {a b c d:Nat}(h1:a=c+1)(h2:c=d+1)(h3:d<=5+2*b):a<=5+2*(b+1):=by(try subst_vars);lia
theorem ω415 {a b c d:Nat}(h1:b<=c/\a<=c/\d<=c)(h2:c<=5/\4<=c):a+b<=1000:=by lia
theorem sy {a b c d:Nat}(h1:b<=5/\4<=b)(h2:c<=b/\d<=b/\a<=b):a<=1000:=by lia
theorem sx {a:Nat}(h1:5<=a):a=a - 1+1:=by lia
theorem ω418 {a b:Nat}(h1:a<b)(h2:b<=5/\4<=b):a<=1000:=by lia
theorem ω419 {a b:Nat}(h1:a<b)(h2:b<=5/\4<=b):a+1<=1000:=by lia
theorem w8 {a b c:Nat}(h1:a+(c+1)=b):a<b:=by subst h1;exact Nat.lt_add_of_pos_right (Nat.succ_pos _)
theorem ω421 {a b:Nat}(h1:b<a):a - 1+1=a:=by lia
theorem ω422 {a b c d:Nat}(h1:a=d+1)(h2:d+(b+1)=c):a+b=c:=by subst h1 h2;exact Nat.succ_add _ _
theorem sv {a:Nat}(h1:6<=a):a=a - 1+1:=by lia
theorem wZ {a:Nat}(h1:6<=a):5<=a - 1:=Nat.lt_sub_of_add_lt (h1)
theorem iw {a:Nat}(h1:a<=5/\4<=a):a<=1000:=by lia
theorem su {a:Nat}(h1:a<=5/\4<=a):a<64:=by lia
theorem ω427 {a:Nat}(h1:a<=800):a<=900:=Nat.le_add_left_of_le (h1)
theorem ω428 {a b c d:Nat}(h1:a<=b/\c<=b/\d<=b)(h2:b<=5/\4<=b):a<64:=by lia
theorem ω429 {a b c d e:Nat}(h1:a=c+1)(h2:b=d+1)(h3:c=e+1)(h4:e<=5+2*d):a<=5+2*b:=by(try subst_vars);lia
theorem ω430 {a b c:Nat}(h1:a=c+1)(h2:c+(b+1)<=100):a+b<=100:=by(try subst_vars);lia
theorem wY {a:Int}{b:Nat}(h1:0<=a/\a<(↑b:Int))(h2:b<=5/\4<=b):a.natAbs<=1000:=by lia
theorem ω432 {a:Nat}(h1:a<=5/\4<=a):0+a<=100:=by lia
theorem ω433 {a b c:Nat}(h1:a<=5+2*b)(h2:b+(c+1)<=100):a<=800:=by lia
theorem ω434 {a:Nat}:¬(↑a:Int)<(↑a:Int)+(↑0:Int):=by(try subst_vars);simp+arith [*]
theorem ω435 {a b c d:Nat}(h1:a=b+1)(h2:b<=5+2*c)(h3:c+(d+1)<=100):a<=800:=by(try subst_vars);lia
theorem ω436 {a b:Nat}(h1:b+1=a):(↑a:Int) - 1=(↑b:Int):=by(try subst_vars);simp+arith [*]
theorem ω437 {a b:Nat}(h1:b+0=a):(↑a:Int)=(↑b:Int):=by subst h1;rfl
theorem ω438 {a b:Nat}(h1:(↑b:Int) - 1=0)(h2:a+1=b):a=0:=by lia
theorem ω439 {a b:Nat}(h1:b+1=a)(h2:b=0):(↑a:Int) - 1=0:=by subst h1 h2;exact rfl
theorem ω440 {a b:Nat}(h1:b+0=a)(h2:b=0):a=0:=h1▸h2
theorem ω441 {a b:Nat}:(↑a:Int)+(↑(b+1):Int)=(↑(a+(0+1)):Int)+(↑b:Int):=by(try subst_vars);simp+arith [*]
theorem ω442 {a b:Nat}(h1:a+1<=b)(h2:b<=a):False:=aM _ (aN (h1) (h2))
theorem ω443 {a b:Int}(h1:0<=a/\a<b)(h2:b.toNat<=0):False:=by lia
theorem ω444 {a b:Nat}(h1:a+0=b):a+1=1+b:=by subst h1;exact Nat.add_comm _ _
theorem ω445 {a c:Int}{b:Nat}(h1:0<=a/\a<c)(h2:0<=c/\c<(↑b:Int)):0<=a/\a<(↑b:Int):=by omega
theorem ω446 {a c:Int}{b:Nat}(h1:0<=a/\a<c)(h2:c.toNat<=b+1):a.toNat<=b:=by lia
theorem ω447 {a b c:Nat}(h1:a+b=c):0+a+b=0+c:=by subst h1;exact Nat.add_assoc _ _ _
theorem ω448 {a b c:Nat}(h1:a+b=c):1+a+b=1+c:=by subst h1;exact Nat.add_assoc _ _ _
theorem ω449 {a b c:Nat}:(↑a:Int)+(↑b:Int)+(↑c:Int)=(↑a:Int)+(↑(b+c):Int):=by(try subst_vars);simp+arith [*]
theorem ω450 {a:Int}(h1:0<=a/\a<a):False:=by lia
theorem ω451 {a:Int}{b:Nat}(h1:0<=a/\a<(↑b:Int))(h2:b=4∨b=5):a=0∨a=1∨a=2∨a=3∨a=4:=by lia
theorem ω452 {a b c:Nat}(h1:a+1<c)(h2:c=b):a<b:=by subst h2;exact Nat.le_of_lt (h1)
theorem ω453 {a b c:Nat}(h1:a<b)(h2:b=c)(h3:c<=100):a<=100:=by(try subst_vars);lia
theorem ω454 {a b:Nat}(h1:a<=100):a - (b+2)<=100:=by omega
theorem ω455 {a:Nat}(h1:a<=100):a+2<=1000:=by lia
theorem ω456 {a b:Nat}(h1:a<=100)(h2:b<=100):a+2+b<=1000:=by lia
theorem sr {a:Nat}(h1:a=4∨a=5):a<=5:=by lia
theorem sq {a:Nat}(h1:a=4∨a=5):a<=1000:=by lia
theorem ω460 {a:Nat}(h1:a<=5/\4<=a):a<=5:=by(try subst_vars);simp+arith [*]
theorem ω461 {a:Nat}(h1:7<=a):a=a - 1+1:=by lia
theorem ω462 {a:Nat}(h1:7<=a):6<=a - 1:=Nat.lt_sub_of_add_lt (h1)
theorem ω463 {a:Nat}(h1:7<=a):3<=a:=Nat.le_trans (Nat.le_add_left _ _) (h1)
theorem ω464 {a b c:Nat}(h1:a+(c+1)<b):a+1<b:=by lia
theorem ω465 {a b c:Nat}(h1:a+(b+1)<c):a+1+b<c:=by lia
theorem wX {a b:Nat}(h1:a<b)(h2:b<=5/\4<=b):a<5:=Nat.le_trans (h1) ((h2).1)
theorem ω467 {a b:Nat}(h1:a<b)(h2:b<=5/\4<=b):a<64:=by lia
theorem ω468 {a b:Nat}(h1:a<b):0+a<b:=by(try subst_vars);simp+arith [*]
theorem ω469 {a:Nat}(h1:a<5):a=0∨a=1∨a=2∨a=3∨a=4:=by lia
theorem ω470 {a b:Nat}(h1:a+1<b):a<=b:=by lia
theorem ω471 {a b:Nat}(h1:a+1<b):a+2<=b:=h1
theorem ω472 {a b c:Nat}(h1:a+2<=c)(h2:c=b):a+1<b:=h2▸h1
theorem ω473 {a:Nat}(h1:a<=5):a=0∨a=1∨a=2∨a=3∨a=4∨a=5:=by lia
theorem ω474 {a:Nat}(h1:a<=4):a - 1<4:=by(try subst_vars);simp+arith [*]
theorem ω475 {a b:Nat}(h1:b<a):(↑(a - 1):Int)=(↑a:Int) - 1:=by lia
theorem wW {a:Nat}(h1:a=4∨a=5):a<64:=by lia
theorem ω477 {a b:Nat}(h1:a<b)(h2:b=4∨b=5):a<=4:=by lia
theorem ω478 {a b:Nat}(h1:a<b)(h2:b=4∨b=5):a=0∨a=1∨a=2∨a=3∨a=4:=by lia
theorem pW {a b:Nat}(h1:a<b):0<=(↑a:Int)/\(↑a:Int)<(↑b:Int):=by(try subst_vars);simp+arith [*]
theorem sp {a b:Nat}(h1:0<=a/\a<0+b):a<b:=by lia
theorem wV {a b:Nat}(h1:a<=5*b)(h2:b<=5/\4<=b):a<=1000:=by lia
theorem ω482 {a b:Nat}(h1:a<b):a<=b:=Nat.le_of_lt (h1)
theorem wU {a:Nat}(h1:a<=4):a<=5:=Nat.le_succ_of_le (h1)
theorem ω484 {a:Nat}(h1:a<=4):a<64:=dI (h1) (aO rfl)
theorem ω485 {a:Nat}(h1:a<=4):a<=1000:=Nat.le_add_left_of_le (h1)
theorem ω486:0<=0:=by constructor<;>lia
theorem ω487 {a:Nat}(h1:a<=5/\4<=a):¬0=a:=by intro;lia
theorem ω488:0<0+4:=by decide
theorem ω489:0<=1:=by(try subst_vars);simp+arith [*]
theorem ω490:1<0+4:=by decide
theorem ω491:0<=2:=by(try subst_vars);simp+arith [*]
theorem ω492:2<0+4:=by decide
theorem ω493:0<=3:=by(try subst_vars);simp+arith [*]
theorem ω494:3<0+4:=by constructor<;>lia
theorem ω495 {a:Nat}(h1:a+8<8):False:=by lia
theorem ω496 {a:Nat}:0<a+1:=Nat.succ_pos _
theorem ω497 {a:Nat}(h1:a+6<=5):False:=by lia
theorem so {a:Nat}:1000<=1000+a:=aZ _ _
theorem ω499 {a:Nat}:0<=(↑a:Int):=Int.ofNat_nonneg _
theorem sn {a:Nat}:1000+a - 1000=a:=by(try subst_vars);simp+arith [*]
theorem wT {a b:Nat}(h1:a<min b 4):a<b:=by lia
theorem ω502 {a:Nat}(h1:a<=3):¬4<(↑a:Int):=by intro;lia
theorem ω503 {a:Nat}(h1:a<=3):a<=4:=Nat.le_succ_of_le (h1)
theorem wS {a:Nat}(h1:¬a<=3):4<=a:=Nat.lt_of_not_le (h1)
theorem ω505 {a:Nat}(h1:a<=4):¬4<(↑a:Int):=by intro;lia
theorem ω506 {a:Nat}(h1:¬a<=4):4<=a:=by lia
theorem ω507 {a b:Nat}(h1:a<b):a+1<b+1:=Nat.succ_le_succ (h1)
theorem ω508 {a:Nat}(h1:¬a<=4):4<(↑a:Int):=by lia
theorem ω509 {a:Nat}:min a 4<=4:=Nat.min_le_right _ _
theorem ω510:4+4<=1000:=by(try subst_vars);simp+arith [*]
theorem ω511:4<=4:=by constructor<;>lia
theorem ω512 {a:Nat}(h1:¬a<=3):min a 4=4:=by lia
theorem ω513 {a:Nat}:min 5 a<=5:=Nat.min_le_left _ _
theorem ω514 {a:Nat}:min a 4+(4 - min a 4)=4:=by lia
theorem ω515 {a b:Nat}(h1:a<=4)(h2:b=4):a - 1<b:=by simp+arith [*]
theorem ω516 {a b c:Nat}(h1:a<b)(h2:b - 1<c)(h3:c=4):a<5:=by(try subst_vars);omega
theorem ω517 {a:Nat}:min 5 a+5<=100:=by lia
theorem ω518 {a:Nat}:1004+a=1000+(4+a):=by(try subst_vars);simp+arith [*]
theorem ω519 {a b c:Nat}(h1:a<c)(h2:c=min 5 (b - 4)):4+a<b:=by(try subst_vars);omega
theorem ω520 {a b c:Nat}(h1:a<c)(h2:c<=5):a - b=0∨a - b=1∨a - b=2∨a - b=3∨a - b=4:=by lia
theorem ω521 {a b c:Nat}(h1:a<c)(h2:c=b):a<b:=by(try subst_vars);omega
theorem ω522 {a:Nat}(h1:182<=a):33<=a - 149:=Nat.lt_sub_of_add_lt (h1)
theorem ω523 {a b:Nat}(h1:a<b)(h2:b<=63):1000+a<1999:=by lia
theorem ω527 {a:Nat}(h1:1<=a):0<(↑a:Int):=Int.ofNat_lt.mpr (h1)
theorem ω536 {a:Int}{b:Nat}(h1:0<=a)(h2:a<(↑b:Int)):a.toNat<b:=by omega
theorem ω537 {a b:Nat}(h1:4<=a)(h2:b<=4):min a b=b:=by lia
theorem ω538 {a:Nat}(h1:¬(↑63:Int)<(↑a:Int)):a<=63:=by lia
theorem ω539 {a:Nat}{b:Int}(h1:0<=b)(h2:b<(↑a:Int)):¬(↑a:Int)=0:=by intro;lia
theorem ω540 {a:Int}(h1:0<=a/\a<5):a=0∨a=1∨a=2∨a=3∨a=4:=by lia
theorem ω541 {a:Int}(h1:0<=a/\a<4):a=0∨a=1∨a=2∨a=3:=by lia
theorem ω542 {a b:Nat}(h1:b<512):(a*4096+b) / 4096=a:=by lia
theorem ω543 {a b:Nat}(h1:(a*4096+b) / 4096=a):(a*4096+b) % 4096=b:=by lia
inductive AV where
 |none|bool (b:Bool)|int (i:Int)|str (l:List Nat)|ref (i:Nat)|kt (i:Nat)
structure b4 where
 tab:Nat->Option (Addr×List AV)
 prog:Program
 w:World
 ns:Nat->List Str
 /-- numbers that the machine does not look into -/
 num:Nat->Option Int
 /-- objects that the machine does not look into -/
 obj:Nat->Option Addr
noncomputable def VR (KT:b4)(ρ:List Addr):AV->Value->Prop
 |.none,v=>v= .none
 |.bool b,v=>v= .bool b
 |.int i,v=>∃t,v= .int i t
 |.str l,v=>∃t,v= .str ⟨l.toArray⟩ t
 |.ref i,v=>∃a,ρ[i]? =some a/\v= .ref a
 |.kt i,v=>(∃p,KT.tab i=some p/\v= .ref p.1)∨(KT.tab i=none/\∃n t,KT.num i=some n/\v= .int n t)∨(KT.tab i=none/\KT.num i=none/\∃a,KT.obj i=some a/\v= .ref a)
theorem VR.kt_of {KT:b4}{ρ:List Addr}{i:Nat}{x:Value}{a:Addr}{xs:List AV}(h:KT.tab i=some (a,xs))(r:VR KT ρ (.kt i) x):x= .ref a:=by
 rcases r with⟨p,hp,rfl⟩|⟨q,_⟩|⟨q,_⟩
 ·cases h.symm.trans hp;rfl
 ·cases h.symm.trans q
 ·cases h.symm.trans q
theorem VR.kt_num {KT:b4}{ρ:List Addr}{i:Nat}{x:Value}{n:Int}(h1:KT.tab i=none)(h2:KT.num i=some n)(r:VR KT ρ (.kt i) x):∃t,x= .int n t:=by
 rcases r with⟨p,hp,rfl⟩|⟨_,m,t,hm,rfl⟩|⟨_,q,_⟩
 ·cases h1.symm.trans hp
 ·cases h2.symm.trans hm;exact⟨t,rfl⟩
 ·cases h2.symm.trans q
theorem VR.kt_obj {KT:b4}{ρ:List Addr}{i:Nat}{x:Value}{a:Addr}(h1:KT.tab i=none)(h2:KT.num i=none)(h3:KT.obj i=some a)(r:VR KT ρ (.kt i) x):x= .ref a:=by
 rcases r with⟨p,hp,rfl⟩|⟨_,m,t,hm,rfl⟩|⟨_,_,b,hb,rfl⟩
 ·cases h1.symm.trans hp
 ·cases h2.symm.trans hm
 ·cases h3.symm.trans hb;rfl
theorem cx {α:Type}{ρ ρ':List α}(h:ρ<+:ρ'){i:Nat}{a:α}(e:ρ[i]? =some a):ρ'[i]? =some a:=by
 refine eE h λ t z1_=>?_;clear h;subst z1_
 rw[aL (aa.mp e).1];exact e
theorem VR.mono {KT:b4}{ρ ρ':List Addr}(h:ρ<+:ρ'){v:AV}{x:Value}(r:VR KT ρ v x):VR KT ρ' v x:=by
 cases v with
 |ref i=>refine aQ r λ a e z1_=>?_;clear r;subst z1_;exact⟨a,cx h e,rfl⟩
 |_=>exact r
inductive VRs (KT:b4) (ρ:List Addr):List AV->List Value->Prop
 |nil:VRs KT ρ [] []
 |cons {v x vs xs}:VR KT ρ v x->VRs KT ρ vs xs->VRs KT ρ (v::vs) (x::xs)
theorem VRs.mono {KT:b4}{ρ ρ':List Addr}(h:ρ<+:ρ'){vs:List AV}{xs:List Value}(r:VRs KT ρ vs xs):VRs KT ρ' vs xs:=by
 induction r with
 |nil=>exact .nil
 |cons a _ ih=>exact .cons (a.mono h) ih
theorem VRs.length {KT:b4}{ρ:List Addr}{vs:List AV}{xs:List Value}(r:VRs KT ρ vs xs):vs.length=xs.length:=by
 induction r with
 |nil=>rfl
 |cons _ _ ih=>simp[ih]
theorem VRs.get {KT:b4}{ρ:List Addr}{vs:List AV}{xs:List Value}(r:VRs KT ρ vs xs):∀{i:Nat} {v:AV},vs[i]? =some v->∃x,xs[i]? =some x/\VR KT ρ v x:=by
 induction r with
 |nil=>intro i v e;simp at e
 |cons a _ ih=>
  intro i v e
  cases i with
  |zero=>simp at e;subst e;exact⟨_,rfl,a⟩
  |succ i=>simpa using ih (by simpa using e)
theorem VRs.append {KT:b4}{ρ:List Addr}{vs ws:List AV}{xs ys:List Value}(r:VRs KT ρ vs xs)(q:VRs KT ρ ws ys):VRs KT ρ (vs++ws) (xs++ys):=by
 induction r with
 |nil=>exact q
 |cons a _ ih=>exact .cons a ih
theorem VRs.set {KT:b4}{ρ:List Addr}{vs:List AV}{xs:List Value}(r:VRs KT ρ vs xs){v:AV}{x:Value}(q:VR KT ρ v x):∀i,VRs KT ρ (vs.set i v) (xs.set i x):=by
 induction r with
 |nil=>intro i;exact .nil
 |cons a r ih=>
  intro i
  cases i with
  |zero=>exact .cons q r
  |succ i=>exact .cons a (ih i)
inductive AO where
 |any
 |list (xs:List AV)
 |tup (xs:List AV)
 |range (a b c:Int)
 |cell (v:Option AV)
 |dict (kd:Bool) (kvs:List (AV×AV)) (ep:Nat)
 |set (kd:Bool) (xs:List AV)
 |inst (C:Addr) (j:Nat) (vals:List (Option AV))
 |attrs (c:Nat) (vals:List (Option AV)) (b:Nat)
 |lit (r k:Nat)
 |nxt (i:Nat)
 |vals (d:Nat)
inductive KVR (KT:b4) (ρ:List Addr) {K:Type} (enc:K->AV):List (AV×AV)->List (K×Value)->Prop
 |nil:KVR KT ρ enc [] []
 |cons {k v x kvs xs}:VR KT ρ v x->KVR KT ρ enc kvs xs->KVR KT ρ enc ((enc k,v)::kvs) ((k,x)::xs)
theorem KVR.mono {KT:b4}{ρ ρ':List Addr}{K:Type}{enc:K->AV}(h:ρ<+:ρ'){kvs:List (AV×AV)}{xs:List (K×Value)}(r:KVR KT ρ enc kvs xs):KVR KT ρ' enc kvs xs:=by
 induction r with
 |nil=>exact .nil
 |cons a _ ih=>exact .cons (a.mono h) ih
noncomputable def DR (KT:b4)(ρ:List Addr){K:Type}[DecidableEq K] (knd:PySem.KeyKind KT.prog KT.w K)(enc:K->AV)(kvs:List (AV×AV))(ep:Nat)(ob:Obj):Prop:=
 ∃es xs,ob.ExactDict/\ob.data= .dict es ep/\PySem.KeysOf knd es/\Pairs knd es.toList xs/\(xs.map (·.1)).Nodup/\KVR KT ρ enc kvs xs
noncomputable def kT (x:Str):AV:=.str x.cps.toList
noncomputable def sb {prog:Program}{w:World}{K:Type}[DecidableEq K] (knd:PySem.KeyKind prog w K)(enc:K->AV)(xs:List AV)(ob:Obj):Prop:=
 ∃(S:K->Bool) (n:Nat),ob.SetObjOf knd S n/\n<scanBound/\n<=xs.length/\∀k,S k=true↔enc k∈xs
noncomputable def SlR (KT:b4)(ρ:List Addr)(z:Option (Option AV))(y:Option Value):Prop:=match z with
 |some (some v)=>∃x,y=some x/\VR KT ρ v x
 |_=>True
noncomputable def NsR (KT:b4)(ρ:List Addr)(z:Option (Option AV))(y:Option (Option Value)):Prop:=match z with
 |some (some v)=>∃x,y=some (some x)/\VR KT ρ v x
 |_=>y=some none
theorem SlR.mono {KT:b4}{ρ ρ':List Addr}(h:ρ<+:ρ'){z:Option (Option AV)}{y:Option Value}(r:SlR KT ρ z y):SlR KT ρ' z y:=by
 rcases z with _|_|v
 ·trivial
 ·trivial
 ·refine aQ r λ x a b=>?_;exact⟨x,a,b.mono h⟩
theorem NsR.mono {KT:b4}{ρ ρ':List Addr}(h:ρ<+:ρ'){z:Option (Option AV)}{y:Option (Option Value)}(r:NsR KT ρ z y):NsR KT ρ' z y:=by
 rcases z with _|_|v
 ·exact r
 ·exact r
 ·refine aQ r λ x a b=>?_;exact⟨x,a,b.mono h⟩
noncomputable def OR (KT:b4)(ρ:List Addr):AO->Obj->Prop
 |.any,_=>True
 |.list xs,ob=>∃vs n,ob=⟨.type "list",none,.seq vs n,#[]⟩/\VRs KT ρ xs vs.toList
 |.tup xs,ob=>∃vs n,ob=⟨.type "tuple",none,.seq vs n,#[]⟩/\VRs KT ρ xs vs.toList
 |.range a b c,ob=>∃t u v,ob=⟨.type "range",none,.fields #[.int a t,.int b u,.int c v],#[]⟩
 |.cell none,ob=>ob.data= .cell none
 |.cell (some v),ob=>∃x,ob.data= .cell (some x)/\VR KT ρ v x
 |.dict true kvs ep,ob=>DR KT ρ (PySem.strKind KT.prog KT.w) kT kvs ep ob
 |.dict false kvs ep,ob=>DR KT ρ (PySem.intKind KT.prog KT.w) AV.int kvs ep ob
 |.set true xs,ob=>sb (PySem.strKind KT.prog KT.w) kT xs ob
 |.set false xs,ob=>sb (PySem.intKind KT.prog KT.w) AV.int xs ob
 |.inst C j vals,ob=>∃(dx:Addr) (sl:Array (Option Value)),ρ[j]? =some dx/\ob=⟨.ref C,some dx,.plain,sl⟩/\∀(i:Nat),SlR KT ρ vals[i]? (sl[i]?).join
 |.attrs c vals b,ob=>∃(es:List DictEntry) (n:Nat),ob=W.dictOf es n/\es.length<=b/\(∀x,x∉KT.ns c->W.getL x es=some none)/\∀(i:Nat) (x:Str),(KT.ns c)[i]? =some x->NsR KT ρ vals[i]? (W.getL x es)
 |.lit r k,ob=>∃a,ρ[r]? =some a/\ob=⟨.type "list_iterator",none,.fields #[.ref a,.int k 0],#[]⟩
 |.nxt i,ob=>∃a,ρ[i]? =some a/\ob.cls= .type "method-wrapper"/\ob.data= .fields #[.builtin "list_iterator.__next__",.ref a]
 |.vals i,ob=>∃a,ρ[i]? =some a/\ob.cls= .type "dict_values"/\ob.data= .fields #[.ref a]
theorem OR.mono {KT:b4}{ρ ρ':List Addr}(h:ρ<+:ρ'){o:AO}{ob:Obj}(r:OR KT ρ o ob):OR KT ρ' o ob:=by
 match o,r with
 |.any,_=>trivial
 |.list xs,r=>refine ez r λ vs n b c=>?_;exact⟨vs,n,b,c.mono h⟩
 |.tup xs,r=>refine ez r λ vs n b c=>?_;exact⟨vs,n,b,c.mono h⟩
 |.range _ _ _,r=>exact r
 |.cell none,r=>exact r
 |.cell (some v),r=>refine aQ r λ x a b=>?_;exact⟨x,a,b.mono h⟩
 |.dict true _ _,r=>refine dB r λ es xs a b c d e f=>?_;exact⟨es,xs,a,b,c,d,e,f.mono h⟩
 |.dict false _ _,r=>refine dB r λ es xs a b c d e f=>?_;exact⟨es,xs,a,b,c,d,e,f.mono h⟩
 |.set true _,r=>exact r
 |.set false _,r=>exact r
 |.inst _ _ _,r=>refine bR r λ dx sl a b c=>?_;exact⟨dx,sl,cx h a,b,λ i=>(c i).mono h⟩
 |.attrs _ _ _,r=>refine bz r λ es n a b d c=>?_;exact⟨es,n,a,b,d,λ i x e=>(c i x e).mono h⟩
 |.lit _ _,r=>refine aQ r λ a e b=>?_;exact⟨a,cx h e,b⟩
 |.nxt _,r=>refine aQ r λ a e b=>?_;exact⟨a,cx h e,b⟩
 |.vals _,r=>refine aQ r λ a e b=>?_;exact⟨a,cx h e,b⟩
inductive BO where
 |ex (o:Obj)|da (d:Data)|no
noncomputable def BO.ok (x:BO)(b:Addr)(g:Option Obj):Prop:=match x with
 |.ex o=>g=some o
 |.da d=>∃o,g=some o/\o.data=d
 |.no=>b=sysModules
theorem BO.ok.mono {x:BO}{b:Addr}{g g':Option Obj}(h:x.ok b g)(k:∀o,g=some o->g'=some o):x.ok b g':=by
 cases x with
 |ex o=>exact k o h
 |da d=>refine aQ h λ o e r=>?_;exact⟨o,k o e,r⟩
 |no=>exact h
theorem BO.ok.lt {x:BO}{h:Heap}{a:Addr}(hs:1<h.objs.size)(q:x.ok a (h.get? a)):a<h.objs.size:=by
 cases x with
 |ex o=>exact Heap.lt_size q
 |da d=>refine aQ q λ o e r=>?_;exact Heap.lt_size e
 |no=>rw[show a=sysModules from q];exact hs
noncomputable abbrev Base:=Addr->Option BO
noncomputable def Kept (B:Base)(h:Heap):Prop:=∀b x,B b=some x->x.ok b (h.get? b)
structure Rep (KT:b4) (B:Base) (ρ:List Addr) (st:List AO) (h:Heap):Prop where
 kept:Kept B h
 len:ρ.length=st.length
 nd:ρ.Nodup
 off:∀a∈ρ,B a=none
 obj:∀(i:Nat) (a:Addr) (o:AO),ρ[i]? =some a->st[i]? =some o->∃ob,h.get? a=some ob/\OR KT ρ o ob
section
variable{KT:b4}{B:Base}{ρ:List Addr}{st:List AO}{h h':Heap}
theorem Rep.at (R:Rep KT B ρ st h){i:Nat}{o:AO}(e:st[i]? =some o):∃a,ρ[i]? =some a:=by
 have:=(aa.mp e).1
 rw[← R.len]at this
 exact⟨_,ae this⟩
theorem Rep.lt (R:Rep KT B ρ st h){a:Addr}(ha:a∈ρ):a<h.objs.size:=by
 refine eE (List.mem_iff_getElem.mp ha) λ i z1_=>?_;obtain⟨hi,rfl⟩:=z1_
 have hs:i<st.length:=R.len▸hi
 refine aQ (R.obj i _ _ (ae hi) (ae hs)) λ ob e _=>?_
 exact Heap.lt_size e
theorem Rep.ext (R:Rep KT B ρ st h)(hk:∀b o,h.get? b=some o->h'.get? b=some o):Rep KT B ρ st h':=
 ⟨λ b x e=>(R.kept b x e).mono λ o=>hk b o,R.len,R.nd,R.off,λ i a o e1 e2=>by
  refine aQ (R.obj i a o e1 e2) λ ob e r=>?_
  exact⟨ob,hk _ _ e,r⟩⟩
theorem Rep.extBut (R:Rep KT B ρ st h){L:Addr}(hk:Heap.ExtBut L h h')(hL:L∉ρ)(hB:B L=none):Rep KT B ρ st h':=
 ⟨λ b x e=>(R.kept b x e).mono λ o=>hk b o (λ q=>by rw[q,hB]at e;cases e),R.len,R.nd,R.off,λ i a o e1 e2=>by
  refine aQ (R.obj i a o e1 e2) λ ob e r=>?_
  exact⟨ob,hk _ _ (λ q=>hL (q▸ac e1)) e,r⟩⟩
theorem Rep.push (hs:1<h.objs.size)(R:Rep KT B ρ st h){ob:Obj}(hf:ob.isFreed=false){o:AO}(r:OR KT (ρ++[h.objs.size]) o ob):
  Rep KT B (ρ++[h.objs.size]) (st++[o]) (h.push ob):=by
 have hn:h.objs.size∉ρ:=λ q=>aM _ (R.lt q)
 refine⟨λ b x e=>(R.kept b x e).mono λ o q=>av _ q,by simp[R.len],?_,?_,?_⟩
 ·rw[List.nodup_append]
  exact⟨R.nd,by simp,λ a ha b hb q=>by
   rw[List.mem_singleton]at hb
   exact hn (by rw[← hb,← q];exact ha)⟩
 ·intro a ha
  rcases bn.mp ha with ha|ha
  ·exact R.off a ha
  ·rw[List.mem_singleton.mp ha]
   cases q:B h.objs.size with
   |none=>rfl
   |some x=>exact absurd ((R.kept _ _ q).lt hs) (aM _)
 ·intro i a o' e1 e2
  by_cases hi:i<ρ.length
  ·rw[aL hi]at e1
   rw[aL (R.len▸hi)]at e2
   refine aQ (R.obj i a o' e1 e2) λ ob' e q=>?_
   exact⟨ob',av _ e,q.mono (ai _ _)⟩
  ·have hi':=Nat.le_of_not_lt hi
   rw[az hi']at e1
   rw[az (R.len▸hi')]at e2
   have z:i - ρ.length=0:=by
    have:=(aa.mp e1).1
    simp at this;exact ω0 this
   rw[z]at e1
   rw[← R.len,z]at e2
   simp at e1 e2
   subst e1 e2
   exact⟨ob,aY _ hf,r⟩
theorem dX {α:Type}{l:List α}(hn:l.Nodup){i j:Nat}{a:α}(e1:l[i]? =some a)(e2:l[j]? =some a):i=j:=by
 refine eE (aa.mp e1) λ h1 q1=>?_
 refine eE (aa.mp e2) λ h2 q2=>?_
 have hp:=List.pairwise_iff_getElem.mp hn
 rcases Nat.lt_trichotomy i j with h|h|h
 ·exact absurd (q1.trans q2.symm) (hp i j h1 h2 h)
 ·exact h
 ·exact absurd (q2.trans q1.symm) (hp j i h2 h1 h)
theorem Rep.upd (R:Rep KT B ρ st h){i:Nat}{a:Addr}(ha:ρ[i]? =some a)(hs:Heap.SameBut a h h'){o:AO}(hx:∃ob,h'.get? a=some ob/\OR KT ρ o ob):
  Rep KT B ρ (st.set i o) h':=by
 have hm:=ac ha
 refine⟨λ b x e=>(R.kept b x e).mono λ o z=>(hs.2 b (λ q=>by rw[q,R.off a hm]at e;cases e)).trans z,by simp[R.len],R.nd,R.off,?_⟩
 intro j b o' e1 e2
 by_cases hij:i=j
 ·subst hij
  have:b=a:=aj (e1.symm.trans ha)
  subst this
  have hl:i<st.length:=R.len▸(aa.mp ha).1
  rw[aH hl]at e2
  cases e2
  exact hx
 ·rw[ak hij]at e2
  refine aQ (R.obj j b o' e1 e2) λ ob e r=>?_
  refine⟨ob,(hs.2 b λ q=>hij ?_).trans e,r⟩
  subst q
  exact dX R.nd ha e1
end
structure Gd where
 K:Frag
 p:Program
 loose:List Str
 mg:Str->Option Value
 mb:Str->Option Value
 KT:b4
 mean:ExcName->Option Value
 h0:Heap
noncomputable abbrev Gd.prog (G:Gd):Program:=G.KT.prog
noncomputable abbrev Gd.w (G:Gd):World:=G.KT.w
structure Cx where
 B:Base
 A:Around
 env:Env
 nms:List Str
 gs:List Str
 cs:List (Option Nat)
 d:Nat
 hn:Bool
 kt:Nat->Option (List AV)
structure AS where
 st:List AO
 fr:List (Option AV)
noncomputable def lw (B:Base)(a:Addr):Prop:=∃d,B a=some (.da d)/\∀vs,d≠.fields vs
noncomputable def FrOk (B:Base)(L:Addr)(e:Env):Prop:=e.scope.kind≠.module/\∃a,e.frame=some a/\(a=L∨lw B a)
theorem FrOk.mono {B B':Base}{L L':Addr}{e:Env}(h:FrOk B L e)(h1:lw B' L)(h2:∀a,lw B a->lw B' a):FrOk B' L' e:=by
 refine gc h λ k a ha q=>?_
 refine⟨k,a,ha,.inr ?_⟩
 rcases q with rfl|q
 ·exact h1
 ·exact h2 a q
theorem jX {h h':Heap}{L:Addr}{m:Str->Option Value}{o:Obj}(hn:h.Ns L m)(ho:h.get? L=some o)(g:∃o',h'.get? L=some o'/\o'.data=o.data):h'.Ns L m:=by
 refine eX hn λ o1 es ep e1 hd r=>?_
 rw[ho]at e1
 cases e1
 refine aQ g λ o' g1 g2=>?_
 exact⟨o',es,ep,g1,g2.trans hd,r⟩
structure CxOk (G:Gd) (C:Cx):Prop where
 fn:C.env.scope.kind= .function
 gl:C.env.globals=mainGlobals
 bi:C.env.builtins=builtinsNs
 nd:C.nms.Nodup
 loc:∀(i:Nat) (x:Str),C.nms[i]? =some x->(∀k,C.cs[i]?≠some (some k))->C.env.kindOf x=some .local
 dbg:∀x∈C.nms,(x == ("__debug__":Str))=false
 Lb:C.B C.env.locals=none
 glo:∀x∈C.gs,C.env.kindOf x=some .globalImplicit/\(x == ("__debug__":Str))=false
 dep:C.A.depth+C.d<recursionLimit
 uni:C.A.units+8*C.d+200<cLine
 hh:C.hn=true->C.A.handled=none
 kin:∀h,Kept C.B h->G.K.In h
 top:∀h,Kept C.B h->TopRead G.p G.loose G.mg G.mb h
 tab:∀h,Kept C.B h->∀(i:Nat) (p:Addr×List AV),G.KT.tab i=some p->∃ob,h.get? p.1=some ob/\OR G.KT [] (.tup p.2) ob
 b0:∀h,Kept C.B h->∀b o,G.h0.get? b=some o->h.get? b=some o
 ab:G.h0.objs.size<=C.env.locals
 sm:C.B sysModules≠none
 h0B:∀a o,G.h0.get? a=some o->C.B a≠none
 X0:G.K.In G.h0
 T0:Top G.p G.loose G.mean G.mg G.mb G.h0
 ktok:∀(i:Nat) (xs:List AV),C.kt i=some xs->∃a,G.KT.tab i=some (a,xs)
 fl:∃l,C.A.frames=some l/\∀e∈l,FrOk C.B C.env.locals e
noncomputable def FrR (G:Gd)(C:Cx)(ρ:List Addr)(fr:List (Option AV))(h:Heap):Prop:=
 ∃m,h.Ns C.env.locals m/\∀(i:Nat) (v:AV),fr[i]? =some (some v)->∃x v',C.nms[i]? =some x/\m x=some v'/\VR G.KT ρ v v'
noncomputable def CellOk (C:Cx)(ρ:List Addr):Prop:=
 ∀(i k:Nat),C.cs[i]? =some (some k)->∃x a,C.nms[i]? =some x/\C.env.cells.lookup x=some a/\ρ[k]? =some a/\C.env.kindOf x=some .cell
structure SR (G:Gd) (C:Cx) (ρ:List Addr) (σ:AS) (h:Heap):Prop where
 rep:Rep G.KT C.B ρ σ.st h
 fr:FrR G C ρ σ.fr h
 Lρ:C.env.locals∉ρ
 cells:CellOk C ρ
 ok:CxOk G C
noncomputable def Ru (G:Gd)(C:Cx){α β:Type}(R:List Addr->β->α->Prop)(ρ:List Addr)(t:Sem α)(s:Shared)(b:β)(σ':AS):Prop:=
 ∀(E:Value->Shared->Prop) (Q:α->Shared->Prop),
  (∀ρ' a h' tk',ρ<+:ρ'->SR G C ρ' σ' h'->R ρ' b a->Q a {s with heap:=h',toks:=tk'})->wpAny (model G.prog G.w) C.A t Q E s
noncomputable abbrev jS (G:Gd)(C:Cx)(ρ:List Addr)(t:Sem Value)(s:Shared)(v:AV)(σ':AS):Prop:=Ru G C (VR G.KT) ρ t s v σ'
noncomputable abbrev RuVs (G:Gd)(C:Cx)(ρ:List Addr)(t:Sem (List Value))(s:Shared)(v:List AV)(σ':AS):Prop:=Ru G C (VRs G.KT) ρ t s v σ'
noncomputable abbrev RuB (G:Gd)(C:Cx)(ρ:List Addr)(t:Sem Bool)(s:Shared)(b:Bool)(σ':AS):Prop:=Ru G C (λ _ (b a:Bool)=>a=b) ρ t s b σ'
noncomputable abbrev va (G:Gd)(C:Cx)(ρ:List Addr)(t:Sem Unit)(s:Shared)(σ':AS):Prop:=Ru G C (λ _ (_ a:Unit)=>a=()) ρ t s () σ'
section
variable{G:Gd}{C:Cx}{ρ:List Addr}{s:Shared}{σ σ' σ'':AS}
theorem FrR.mono {fr:List (Option AV)}{h:Heap}{ρ':List Addr}(p:ρ<+:ρ')(x:FrR G C ρ fr h):FrR G C ρ' fr h:=by
 refine aQ x λ m a b=>?_
 refine⟨m,a,λ i v e=>?_⟩
 refine bR (b i v e) λ x v' c d r=>?_
 exact⟨x,v',c,d,r.mono p⟩
theorem CellOk.mono {ρ':List Addr}(p:ρ<+:ρ')(x:CellOk C ρ):CellOk C ρ':=λ i k e=>by
 refine bz (x i k e) λ x a b c d r=>?_
 exact⟨x,a,b,c,cx p d,r⟩
theorem SR.lnlt {h:Heap}(S:SR G C ρ σ h):C.env.locals<h.objs.size:=let⟨_,a,_⟩:=S.fr;a.lt
theorem SR.big {h:Heap}(S:SR G C ρ σ h):1<h.objs.size:=Nat.lt_trans (by decide) (S.ok.top h S.rep.kept).g.lt
theorem SR.push {h:Heap}(S:SR G C ρ σ h){ob:Obj}(hf:ob.isFreed=false){o:AO}(r:OR G.KT (ρ++[h.objs.size]) o ob):
  SR G C (ρ++[h.objs.size]) ⟨σ.st++[o],σ.fr⟩ (h.push ob):=by
 have p:ρ<+:ρ++[h.objs.size]:=ai _ _
 refine⟨S.rep.push S.big hf r,?_,?_,S.cells.mono p,S.ok⟩
 ·refine aQ (S.fr.mono p) λ m a b=>?_
  exact⟨m,a.push _,b⟩
 ·intro hm
  rcases bn.mp hm with hm|hm
  ·exact S.Lρ hm
  ·exact absurd (List.mem_singleton.mp hm) (Nat.ne_of_lt S.lnlt)
theorem SR.ext {h h':Heap}(S:SR G C ρ σ h)(hk:∀b o,h.get? b=some o->h'.get? b=some o):SR G C ρ σ h':=by
 refine aQ S.fr λ m a b=>?_
 exact⟨S.rep.ext hk,⟨m,a.keeps hk,b⟩,S.Lρ,S.cells,S.ok⟩
theorem SR.upd {h h':Heap}(S:SR G C ρ σ h){i:Nat}{a:Addr}(ha:ρ[i]? =some a)(hs:Heap.SameBut a h h'){o:AO}(hx:∃ob,h'.get? a=some ob/\OR G.KT ρ o ob):
  SR G C ρ ⟨σ.st.set i o,σ.fr⟩ h':=by
 refine aQ S.fr λ m e b=>?_
 exact⟨S.rep.upd ha hs hx,⟨m,e.sameBut hs λ q=>S.Lρ (q▸ac ha),b⟩,S.Lρ,S.cells,S.ok⟩
theorem SR.g {h:Heap}(S:SR G C ρ σ h):h.Ns mainGlobals G.mg:=(S.ok.top h S.rep.kept).g
theorem SR.obj {h:Heap}(S:SR G C ρ σ h){i:Nat}{a:Addr}{o:AO}(ha:ρ[i]? =some a)(e:σ.st[i]? =some o):∃ob,h.get? a=some ob/\OR G.KT ρ o ob:=S.rep.obj i a o ha e
noncomputable def bG (C:List (Option Nat))(σ:AS)(i:Nat):Option AV:=
 match C[i]? with
 |some (some k)=>match σ.st[k]? with
  |some (.cell v)=>v
  |_=>none
 |_=>match σ.fr[i]? with
  |some v=>v
  |none=>none
theorem nK (S:SR G C ρ σ s.heap){i:Nat}{x:Str}{v:AV}(hx:C.nms[i]? =some x)(e:bG C.cs σ i=some v):jS G C ρ (loadName C.env x) s v σ:=by
 intro E Q hQ
 unfold bG at e
 split at e
 ·rename_i k hk
  refine bz (S.cells i k hk) λ x' a hx' hl ha hkind=>?_
  have:x'=x:=aj (hx'.symm.trans hx)
  subst this
  split at e
  ·rename_i v' hst
   subst e
   refine uG (S.obj ha hst) λ ob ho y hd r=>?_
   exact wpAny_loadName_cell S.ok.fn hkind hl ⟨ob,ho,hd⟩ (hQ ρ y s.heap s.toks (ah _) S r)
  ·cases e
 ·rename_i hk
  split at e
  ·rename_i v' hv
   subst e
   refine aQ S.fr λ m hn hm=>?_
   refine bR (hm i v hv) λ x' y hx' hy r=>?_
   have:x'=x:=aj (hx'.symm.trans hx)
   subst this
   exact wpAny_loadName_local S.ok.fn (S.ok.loc i x' hx λ k=>hk k) hn hy (hQ ρ y s.heap s.toks (ah _) S r)
  ·cases e
theorem sE (S:SR G C ρ σ s.heap){i:Nat}{x:Str}{pos:Pos}{v:AV}(hx:C.nms[i]? =some x)(e:bG C.cs σ i=some v):jS G C ρ (eval (.Name x pos) C.env) s v σ:=
 λ E Q hQ=>wpAny_Name (nK S hx e E Q hQ) (S.ok.dbg x (ac hx))
noncomputable def ke (C:List (Option Nat))(σ:AS)(i:Nat)(v:AV):AS:=
 match C[i]? with
 |some (some k)=>⟨σ.st.set k (.cell (some v)),σ.fr⟩
 |_=>⟨σ.st,σ.fr.set i (some v)⟩
theorem rh (S:SR G C ρ σ s.heap){i:Nat}{x:Str}{v:AV}{y:Value}(hx:C.nms[i]? =some x)(r:VR G.KT ρ v y)
  (hc:∀k,C.cs[i]? =some (some k)->∃v'0,σ.st[k]? =some (.cell v'0)):va G C ρ (storeName C.env x y) s (ke C.cs σ i v):=by
 intro E Q hQ
 unfold ke at hQ
 split at hQ
 ·rename_i k hk
  refine bz (S.cells i k hk) λ x' a hx' hl ha hkind=>?_
  have:x'=x:=aj (hx'.symm.trans hx)
  subst this
  refine eE (hc k hk) λ v'0 hst=>?_
  refine aQ (S.obj ha hst) λ ob ho hd=>?_
  have hd':∃z,ob.data= .cell z:=by
   cases v'0 with
   |none=>exact⟨_,hd⟩
   |some v'0=>refine aQ hd λ z hz _=>?_;exact⟨_,hz⟩
  refine eE hd' λ z hz=>?_
  refine wpAny_storeName_cell S.ok.fn hkind hl ⟨ob,ho,hz⟩ λ h' hv hs=>?_
  refine aQ hv λ ob' ho' hd''=>?_
  exact hQ ρ () h' s.toks (ah _) (S.upd ha hs ⟨ob',ho',y,hd'',r⟩) rfl
 ·rename_i hk
  refine aQ S.fr λ m hn hm=>?_
  refine wpAny_storeName_local (S.ok.loc i x hx λ k=>hk k) hn (λ h' hn' hs=>?_) ?_
  ·refine hQ ρ () h' _ (ah _) ⟨S.rep.extBut hs.extBut S.Lρ S.ok.Lb,⟨_,hn',λ j w e=>?_⟩,S.Lρ,S.cells,S.ok⟩ rfl
   by_cases hij:i=j
   ·subst hij
    have hl:=(aa.mp e).1
    rw[List.length_set]at hl
    rw[aH hl]at e
    cases e
    exact⟨x,y,hx,by simp,r⟩
   ·rw[ak hij]at e
    refine bR (hm j w e) λ x' y' a b c=>?_
    refine⟨x',y',a,?_,c⟩
    have:x'≠x:=λ q=>hij (dX S.ok.nd hx (q▸a))
    simp[this,b]
  ·rw[S.ok.fn];rfl
end
section
variable{G:Gd}{C:Cx}{ρ:List Addr}{s:Shared}{σ σ' σ'':AS}
noncomputable def sm (i:Int):Bool:=decide (-1073741824<i) && decide (i<1073741824)
theorem vw {i:Int}(h:sm i=true):Builtin.Int.intBits i<=64:=by
 unfold sm at h
 simp only[Bool.and_eq_true,decide_eq_true_eq]at h
 exact intBits_le_64 (by exact ω28 h) (by exact ω31 h)
noncomputable def xF (a b:Int):Option Int:=match a,b with
 |.ofNat m,.ofNat n=>some (.ofNat (Nat.land m n))
 |_,_=>none
noncomputable def fL (op:Operator)(a b:Int):Option Int:=match op with
 |.Add=>some (a+b)
 |.Sub=>some (a - b)
 |.Mult=>match sm a with
  |true=>some (a*b)
  |false=>none
 |.Mod=>match b with
  |.ofNat 0=>none
  |b=>some (Int.fmod a b)
 |.BitAnd=>xF a b
 |.RShift=>match b with
  |.ofNat n=>some (a.fdiv (2 ^ n))
  |_=>none
 |_=>none
theorem t8 {a b c:Int}(h:xF a b=some c):Builtin.bitAnd a b=c:=by
 cases a with
 |ofNat m=>cases b with
  |ofNat n=>exact aj h
  |negSucc n=>cases h
 |negSucc m=>cases h
theorem j3 {op:Operator}{a b c:Int}{x y:Value}(S:SR G C ρ σ s.heap)(e:fL op a b=some c)(hx:VR G.KT ρ (.int a) x)(hy:VR G.KT ρ (.int b) y):
  jS G C ρ (binaryOp op x y) s (.int c) σ:=by
 refine eE hx λ t z1_=>?_;clear hx;subst z1_
 refine eE hy λ u z1_=>?_;clear hy;subst z1_
 intro E Q hQ
 have fin:∀tk tk',Q (.int c tk) {s with toks:=tk'}:=λ tk tk'=>hQ ρ _ s.heap tk' (ah _) S ⟨tk,rfl⟩
 cases op with
 |Add=>cases e;exact add_int (fin _ _)
 |Sub=>cases e;exact sub_int (fin _ _)
 |Mult=>
  replace e:(match sm a with|true=>some (a*b)|false=>none)=some c:=e
  cases hs:sm a with
  |true=>rw[hs]at e;cases e;exact mul_int (fin _ _) (.of_left (vw hs))
  |false=>rw[hs]at e;cases e
 |Mod=>
  cases b with
  |ofNat n=>cases n with
   |zero=>cases e
   |succ n=>cases e;exact mod_int' (λ q=>by cases q) (fin _ _)
  |negSucc n=>cases e;exact mod_int' (λ q=>by cases q) (fin _ _)
 |BitAnd=>exact and_int (by rw[t8 e];exact fin _ _)
 |RShift=>cases b with
  |ofNat n=>cases e;exact rshift_int (Int.natCast_nonneg n) (fin _ _)
  |negSucc n=>cases e
 |_=>cases e
noncomputable def cmpI (op:CmpOp)(a b:Int):Option Bool:=match op with
 |.Eq=>some (a == b)
 |.NotEq=>some (a != b)
 |.Lt=>some (decide (a<b))
 |.LtE=>some (decide (a<=b))
 |.Gt=>some (decide (b<a))
 |.GtE=>some (decide (b<=a))
 |_=>none
theorem j1 {op:CmpOp}{a b:Int}{c:Bool}{x y:Value}(S:SR G C ρ σ s.heap)(e:cmpI op a b=some c)(hx:VR G.KT ρ (.int a) x)(hy:VR G.KT ρ (.int b) y):
  jS G C ρ (compareOp op x y) s (.bool c) σ:=by
 refine eE hx λ t z1_=>?_;clear hx;subst z1_
 refine eE hy λ u z1_=>?_;clear hy;subst z1_
 intro E Q hQ
 have fin:Q (.bool c) s:=hQ ρ _ s.heap s.toks (ah _) S rfl
 cases op with
 |Eq=>cases e;exact eq_int fin
 |NotEq=>cases e;exact ne_int fin
 |Lt=>cases e;exact lt_int fin
 |LtE=>cases e;exact le_int fin
 |Gt=>cases e;exact gt_int fin
 |GtE=>cases e;exact ge_int fin
 |_=>cases e
noncomputable def si:List Nat->List Nat->Bool
 |[],[]=>true
 |a::l,b::r=>match Nat.beq a b with
  |true=>si l r
  |false=>false
 |_,_=>false
theorem yu (a b:Nat):Nat.beq a b=(a == b):=by
 cases h:Nat.beq a b with
 |true=>simp[aE h]
 |false=>simp[Nat.ne_of_beq_eq_false h]
theorem iL:∀(l r:List Nat),si l r=(l == r)
 |[],[]=>rfl
 |[],_::_=>rfl
 |_::_,[]=>rfl
 |a::l,b::r=>by
  show(match Nat.beq a b with|true=>si l r|false=>false)=_
  rw[List.cons_beq_cons,← yu]
  cases Nat.beq a b with
  |true=>simpa using iL l r
  |false=>rfl
noncomputable def cmpS (op:CmpOp)(a b:List Nat):Option Bool:=match op with
 |.Eq=>some (si a b)
 |.NotEq=>some (!si a b)
 |_=>none
theorem wF {op:CmpOp}{a b:List Nat}{c:Bool}{x y:Value}(S:SR G C ρ σ s.heap)(e:cmpS op a b=some c)(hx:VR G.KT ρ (.str a) x)(hy:VR G.KT ρ (.str b) y):
  jS G C ρ (compareOp op x y) s (.bool c) σ:=by
 refine eE hx λ t z1_=>?_;clear hx;subst z1_
 refine eE hy λ u z1_=>?_;clear hy;subst z1_
 intro E Q hQ
 have fin:Q (.bool c) s:=hQ ρ _ s.heap s.toks (ah _) S rfl
 cases op with
 |Eq=>cases e;exact P.eq_str (by show Q (.bool (a == b)) s;rw[← iL];exact fin)
 |NotEq=>cases e;exact P.ne_str (by show Q (.bool (!(a == b))) s;rw[← iL];exact fin)
 |_=>cases e
noncomputable def vd (v:AV)(st:List AO):Option Bool:=match v with
 |.none=>some false
 |.bool b=>some b
 |.int i=>match i with
  |.ofNat 0=>some false
  |_=>some true
 |.str l=>match l with
  |[]=>some false
  |_=>match Nat.ble l.length 16777216 with
   |true=>some true
   |false=>none
 |.ref i=>match st[i]? with
  |some (.list xs)=>match Nat.ble xs.length 16777216 with
   |true=>some (!xs.isEmpty)
   |false=>none
  |_=>none
 |_=>none
theorem bA {m n:Nat}(h:Nat.ble m n=true):m<=n:=aO h
theorem oY {v:AV}{x:Value}{b:Bool}(S:SR G C ρ σ s.heap)(e:vd v σ.st=some b)(hx:VR G.KT ρ v x):RuB G C ρ (truthy x) s b σ:=by
 intro E Q hQ
 have fin:∀tk,Q b {s with toks:=tk}:=λ tk=>hQ ρ b s.heap tk (ah _) S rfl
 cases v with
 |none=>cases hx;cases e;exact truthy_none (fin _)
 |bool c=>cases hx;cases e;exact wpAny_truthy_bool (fin _)
 |int i=>
  refine eE hx λ t z1_=>?_;clear hx;subst z1_
  refine truthy_int ?_
  have:(i != 0)=b:=by
   cases i with
   |ofNat n=>cases n with
    |zero=>cases e;rfl
    |succ n=>cases e;rfl
   |negSucc n=>cases e;rfl
  rw[this];exact fin _
 |str l=>
  refine eE hx λ t z1_=>?_;clear hx;subst z1_
  have hl:l.length<=16777216/\b=((l.length:Int) != 0):=by
   cases l with
   |nil=>cases e;exact⟨Nat.zero_le _,rfl⟩
   |cons c l=>
    replace e:(match Nat.ble (c::l).length 16777216 with|true=>some true|false=>none)=some b:=e
    cases h:Nat.ble (c::l).length 16777216 with
    |true=>rw[h]at e;exact⟨bA h,(aj e).symm⟩
    |false=>rw[h]at e;cases e
  refine P.truthy_str (by simp[Str.length];omega) ?_
  have e':(((⟨l.toArray⟩:Str).length:Int) != 0)=b:=by rw[hl.2];simp[Str.length]
  rw[e'];exact fin _
 |ref i=>
  refine aQ hx λ a ha z1_=>?_;clear hx;subst z1_
  replace e:(match σ.st[i]? with|some (.list xs)=>(match Nat.ble xs.length 16777216 with|true=>some (!xs.isEmpty)|false=>none)|_=>none)=some b:=e
  cases hst:σ.st[i]? with
  |none=>rw[hst]at e;cases e
  |some o=>
  rw[hst]at e
  cases o with
  |list xs=>
   replace e:(match Nat.ble xs.length 16777216 with|true=>some (!xs.isEmpty)|false=>none)=some b:=e
   cases h:Nat.ble xs.length 16777216 with
   |true=>
    rw[h]at e
    cases e
    refine bC (S.obj ha hst) λ ob ho vs n z1_ r=>?_;subst z1_
    have hlen:=r.length
    have hsz:=bA h
    refine wpAny_truthy_list (items:=vs) ⟨_,ho,rfl,n,rfl⟩ (by(have:vs.size=xs.length:=by simp[hlen]);exact ω30 this hsz) ?_
    have:(!vs.isEmpty)=!xs.isEmpty:=by
     rw[← Array.isEmpty_toList]
     generalize vs.toList=l at r
     cases r<;>rfl
    rw[this];exact fin _
   |false=>rw[h]at e;cases e
  |_=>cases e
 |kt i=>cases e
end
section
variable{M:Model}{A:Around}{E:Value->Shared->Prop}{s:Shared}{env:Env}
theorem iR {value slice:PySem.Expr}{pos:Pos}{prog:Program}{w:World}{Q:Value->Shared->Prop}
  (h:wpAny (model prog w) A (eval value env) (λ o s'1=>wpAny (model prog w) A (eval slice env) (λ i s'2=>∃T id,s'2.TypeIs o T/\typeLookup (.type T) "__getitem__"=pure (some (.builtin id))/\wpAny (model prog w) A (getItem o i) Q E s'2) E s'1) E s):
  wpAny (model prog w) A (eval (.Subscript value slice pos) env) Q E s:=by
 rw[eval_Subscript]
 refine wpAny_bind (wpAny_mono h (λ o s'1 h'1=>wpAny_bind (wpAny_holding (wpAny_mono h'1 (λ i s'2 h'2=>wpAny_bind (wpAny_standAt ?_)) λ _ _ x=>x)))
  λ _ _ x=>x)
 refine bR h'2 λ T id hT hl h'2=>?_
 have fin:wpAny (model prog w) A (subscripted slice false o i) (λ r s'3=>wpAny (model prog w) A (letTemporaryGo value o r >>= λ _=>pure r) Q E s'3) E s'2:=by
  unfold subscripted
  have z:∀l,wpAny (model prog w) A (operate l (getItem o i)) (λ r s'3=>wpAny (model prog w) A (letTemporaryGo value o r >>= λ _=>pure r) Q E s'3) E s'2:=λ l=>
   wpAny_operating (wpAny_mono h'2 (λ r s'3 h'3=>wpAny_bind (wpAny_letTemporaryGo (wpAny_pure h'3))) λ _ _ x=>x)
  cases slice with
  |Slice a b c=>cases c<;>exact z _
  |_=>exact z _
 refine wpAny_bind ?_
 rw[getitemInPython_of_ne hT.not_modules]
 refine wpAny_bind (wpAny_specialOf hT hl ?_)
 first
  |exact wpAny_pure (wpAny_bind fin)
  |exact wpAny_bind (wpAny_pure (wpAny_bind fin))
  |exact wpAny_bind fin
end
noncomputable def bE (i:Int)(n:Nat):Option Nat:=match i with
 |.ofNat k=>match Nat.ble n k with
  |true=>none
  |false=>some k
 |.negSucc k=>match Nat.ble (k+1) n with
  |true=>some (n - (k+1))
  |false=>none
theorem nC {m n:Nat}(h:Nat.ble m n=false):n<m:=by
 apply Nat.lt_of_not_le
 intro q
 rw[aF q]at h
 cases h
theorem iG {i:Int}{n k:Nat}(h:bE i n=some k):k<n:=by
 unfold bE at h
 split at h
 ·split at h
  ·cases h
  ·rename_i q;cases h;exact nC q
 ·split at h
  ·rename_i q;cases h;have:=bA q;exact ω74 this
  ·cases h
theorem iH {i:Int}{n k:Nat}(h:bE i n=some k):(0<=i/\i<n/\k=i.toNat)∨(i<0/\-(n:Int)<=i/\k=(i+n).toNat):=by
 have hk:=iG h
 unfold bE at h
 split at h
 ·rename_i j
  split at h
  ·cases h
  ·cases h
   left
   simp only[Int.ofNat_eq_natCast];exact ω77 hk
 ·rename_i j
  split at h
  ·rename_i q
   have:=bA q
   have hj:k=n - (j+1):=(aj h).symm
   right
   rw[Int.negSucc_eq];exact ω78 this hj
  ·cases h
theorem jE {i:Int}{n k:Nat}(h:bE i n=some k):seqIndex? i n=some k:=by
 have hk:=iG h
 unfold seqIndex?
 rcases iH h with⟨a,b,rfl⟩|⟨a,b,rfl⟩
 ·have hn:¬(i<0):=by exact ω79 a
  simp only[if_neg hn]
  rw[if_pos (by simp;exact ω80 hk hn)]
 ·simp only[if_pos a]
  rw[if_pos (by simp;exact ω81 hk b)]
theorem ku {i:Int}{n k:Nat}(h:bE i n=some k):-(n:Int)<=i/\i<n:=by
 rcases iH h with⟨a,b,_⟩|⟨a,b,_⟩<;>omega
noncomputable def big:Nat:=16777216
noncomputable def idxO (i:Int)(o:AO):Option AV:=match o with
 |.list xs=>match Nat.ble xs.length big with
  |true=>(bE i xs.length).bind λ k=>xs[k]?
  |false=>none
 |.tup xs=>match Nat.ble xs.length big with
  |true=>(bE i xs.length).bind λ k=>xs[k]?
  |false=>none
 |_=>none
noncomputable def rQ (o:AV)(i:Int)(st:List AO):Option AV:=match o with
 |.str l=>match Nat.ble l.length big with
  |true=>(bE i l.length).bind λ k=>(l[k]?).bind λ c=>some (.str [c])
  |false=>none
 |.ref r=>(st[r]?).bind (idxO i)
 |_=>none
section
variable{G:Gd}{C:Cx}{ρ:List Addr}{s:Shared}{σ σ' σ'':AS}
theorem nL:typeLookup (.type "tuple") "__getitem__"=pure (some (.builtin "tuple.__getitem__")):=F.slot_tuple_getitem.lookup
theorem yI {o v:AV}{i:Int}{x y:Value}(S:SR G C ρ σ s.heap)(e:rQ o i σ.st=some v)(hx:VR G.KT ρ o x)(hy:VR G.KT ρ (.int i) y)(E:Value->Shared->Prop)(Q:Value->Shared->Prop)
  (hQ:∀ρ' a h' tk',ρ<+:ρ'->SR G C ρ' σ h'->VR G.KT ρ' v a->Q a {s with heap:=h',toks:=tk'}):
  ∃T id,s.TypeIs x T/\typeLookup (.type T) "__getitem__"=pure (some (.builtin id))/\wpAny (model G.prog G.w) C.A (getItem x y) Q E s:=by
 refine eE hy λ u z1_=>?_;clear hy;subst z1_
 have fin:∀a,VR G.KT ρ v a->∀tk,Q a {s with toks:=tk}:=λ a r tk=>hQ ρ a s.heap tk (ah _) S r
 cases o with
 |str l=>
  refine eA (oT e) λ hb e=>aQ (rM e) λ k hk e=>aQ (rM e) λ c hc e=>?_
  refine eE hx λ t z1_=>?_;clear hx;subst z1_
  have e:v=_:=(aj e).symm
  have hz:=bA hb
  have hbd:=ku hk
  unfold big at hz
  refine⟨"str",_,typeIs_str _ _ _,F.slot_str_getitem.lookup,P.getItem_str (c:=c) ?_ ?_ (fin _ (by rw[e];exact⟨_,rfl⟩) _)⟩
  ·simp only[Bool.or_eq_false_iff,decide_eq_false_iff_not];exact ω70 hbd hz
  ·have:(⟨l.toArray⟩:Str).length=l.length:=by simp[Str.length]
   rw[this,jE hk]
   simpa using hc
 |ref r=>
  refine aQ (rM e) λ o hst e=>?_
  refine aQ hx λ a ha z1_=>?_;clear hx;subst z1_
  cases o with
  |list xs=>
   refine eA (oT e) λ hb e=>aQ (rM e) λ k hk e=>?_
   refine bC (S.obj ha hst) λ ob ho vs n z1_ r=>?_;subst z1_
   have hlen:vs.size=xs.length:=by rw[r.length];simp
   have hz:=bA hb
   unfold big at hz
   have hlt:=iG hk
   refine aQ (r.get e) λ z hz1 hz2=>?_
   have hz1':vs[k]? =some z:=by rw[← hz1];simp
   refine⟨"list",_,⟨_,ho,rfl⟩,list_getitem_lookup,?_⟩
   rcases iH hk with⟨h0,h1,rfl⟩|⟨h0,h1,rfl⟩
   ·exact wpAny_getItem_list (items:=vs) ⟨_,ho,rfl,n,rfl⟩ h0 (by exact ω71 hlt hz) hz1' (fin z hz2 _)
   ·exact wpAny_getItem_list_neg (items:=vs) ⟨_,ho,rfl,n,rfl⟩ h0 (by exact ω72 h1 hlen) (by exact ω73 h1 hz) (by rw[hlen];exact hz1') (fin z hz2 _)
  |tup xs=>
   refine eA (oT e) λ hb e=>aQ (rM e) λ k hk e=>?_
   refine bC (S.obj ha hst) λ ob ho vs n z1_ r=>?_;subst z1_
   have hlen:vs.size=xs.length:=by rw[r.length];simp
   have hz:=bA hb
   unfold big at hz
   have hbd:=ku hk
   refine aQ (r.get e) λ z hz1 hz2=>?_
   have hz1':vs[k]? =some z:=by rw[← hz1];simp
   exact⟨"tuple",_,⟨_,ho,rfl⟩,nL,P.getItem_tuple (n:=n) ho (by exact ω75 hbd hz) (by exact ω76 hbd hz) (by rw[hlen];exact jE hk) hz1' (fin z hz2 _)⟩
  |_=>cases e
 |_=>cases e
end
noncomputable def qZ (n:Nat)(i:Int):Nat:=match i with
 |.ofNat k=>match Nat.ble n k with
  |true=>n
  |false=>k
 |.negSucc k=>n - (k+1)
theorem uT (n:Nat)(i:Int):qZ n i=clipAt n i:=by
 cases i with
 |ofNat k=>
  rw[show clipAt n (Int.ofNat k)=min k n from clipAt_nat n k]
  unfold qZ
  simp only
  split
  ·rename_i q;have:=bA q;exact ω86 this
  ·rename_i q;have:=nC q;exact ω88 this
 |negSucc k=>
  have:=clipAt_neg n (k+1) (by exact ω89)
  rw[show Int.negSucc k=-((k+1:Nat):Int)by rw[Int.negSucc_eq];exact ω90,this]
  show n - (k+1)=n - (k+1)
  rfl
noncomputable def d7 {α:Type}(l:List α)(lo hi:Option Int):List α:=
 let n:=l.length
 let a:=match lo with|none=>0|some i=>qZ n i
 let b:=match hi with|none=>n|some i=>qZ n i
 (l.drop a).take (b - a)
theorem dD {α:Type}(l:List α)(lo hi:Option Int):d7 l lo hi=(l.drop (lo.elim 0 (clipAt l.length))).take (hi.elim l.length (clipAt l.length) - lo.elim 0 (clipAt l.length)):=by
 unfold d7
 cases lo<;>cases hi<;>simp only[uT,Option.elim]
theorem j_ (items:Array Value)(lo hi:Option Int):slicePick items lo hi none=(d7 items.toList lo hi).toArray:=by
 rw[slicePick_plain,dD];simp only[Array.length_toList]
theorem r6 (n:Nat)(i:Int):clipAt n i<=n:=by
 have:=clipAt_cast n i
 exact ω91 this
theorem vx (x:Str)(lo hi:Option (Int×Tok)):(slicePicked x lo hi none).filterMap (x.cps[·]?)=d7 x.cps.toList (lo.map (·.1)) (hi.map (·.1))/\((slicePicked x lo hi none).length=x.length->d7 x.cps.toList (lo.map (·.1)) (hi.map (·.1))=x.cps.toList):=by
 have e:slicePicked x lo hi none=(List.range ((hi.map (·.1)).elim x.length (clipAt x.length) - (lo.map (·.1)).elim 0 (clipAt x.length))).map ((lo.map (·.1)).elim 0 (clipAt x.length)+·):=by
  have:=sliceBounds_plain (lo.map (·.1)) (hi.map (·.1)) x.length
  show Builtin.Str.strSliceIndices (lo.map (·.1)) (hi.map (·.1)) 1 x.length=_
  have z:Builtin.Str.strSliceIndices (lo.map (·.1)) (hi.map (·.1)) 1 x.length=sliceRange (sliceBounds (lo.map (·.1)) (hi.map (·.1)) none x.length).1 (sliceBounds (lo.map (·.1)) (hi.map (·.1)) none x.length).2.1 1:=rfl
  rw[z,this]
  exact sliceRange_one _ _
 have el:x.cps.toList.length=x.length:=by simp[Str.length]
 constructor
 ·rw[e,pick_run,dD,el]
 ·intro h
  rw[e,aD,List.length_range]at h
  rw[dD,el,h]
  have h1:(hi.map (·.1)).elim x.length (clipAt x.length)<=x.length:=by
   cases hi with
   |none=>exact Nat.le_refl _
   |some q=>exact r6 _ _
  rcases Nat.eq_zero_or_pos x.length with h0|h0
  ·have:x.cps.toList=[]:=List.eq_nil_of_length_eq_zero (by rw[el];exact h0)
   rw[this];simp
  ·have ha:(lo.map (·.1)).elim 0 (clipAt x.length)=0:=by exact ω92 h0 h h1
   rw[ha,List.drop_zero,← el];exact List.take_length
section
variable{KT:b4}{ρ:List Addr}
theorem VRs.drop {vs:List AV}{xs:List Value}(r:VRs KT ρ vs xs):∀n,VRs KT ρ (vs.drop n) (xs.drop n):=by
 induction r with
 |nil=>intro n;simp;exact .nil
 |cons a r ih=>
  intro n
  cases n with
  |zero=>exact .cons a r
  |succ n=>exact ih n
theorem VRs.take {vs:List AV}{xs:List Value}(r:VRs KT ρ vs xs):∀n,VRs KT ρ (vs.take n) (xs.take n):=by
 induction r with
 |nil=>intro n;simp;exact .nil
 |cons a r ih=>
  intro n
  cases n with
  |zero=>exact .nil
  |succ n=>exact .cons a (ih n)
theorem VRs.slc {vs:List AV}{xs:List Value}(r:VRs KT ρ vs xs)(lo hi:Option Int):VRs KT ρ (d7 vs lo hi) (d7 xs lo hi):=by
 rw[dD,dD,r.length]
 exact(r.drop _).take _
theorem jC {α:Type}(l:List α)(lo hi:Option Int):(d7 l lo hi).length<=l.length:=by
 rw[dD,cO,List.length_drop];exact ω93
end
noncomputable def gU (v:AV):Option (Option Int):=match v with
 |.none=>some none
 |.int i=>some (some i)
 |_=>none
noncomputable def slcO (st:List AO)(lo hi:Option Int)(x:AO):Option (AV×List AO):=match x with
 |.list xs=>match Nat.ble xs.length big with
  |true=>some (.ref st.length,st++[.list (d7 xs lo hi)])
  |false=>none
 |_=>none
noncomputable def my (o lo hi:AV)(st:List AO):Option (AV×List AO):=
 (gU lo).bind λ lo=>(gU hi).bind λ hi=>match o with
  |.str l=>match Nat.ble l.length big with
   |true=>some (.str (d7 l lo hi),st)
   |false=>none
  |.ref r=>(st[r]?).bind (slcO st lo hi)
  |_=>none
section
variable{G:Gd}{C:Cx}{ρ:List Addr}{s:Shared}{σ σ' σ'':AS}
theorem jW {v:AV}{p:Option Int}{x:Value}(e:gU v=some p)(hx:VR G.KT ρ v x):IsPart x p/\∃q:Option (Int×Tok),x=partValue q/\q.map (·.1)=p:=by
 cases v with
 |none=>cases e;cases hx;exact⟨.none,none,rfl,rfl⟩
 |int i=>cases e;refine eE hx λ t z1_=>?_;clear hx;subst z1_;exact⟨.int _ _,some (_,t),rfl,rfl⟩
 |_=>cases e
theorem ye {o lo hi v:AV}{st':List AO}{x l h:Value}(S:SR G C ρ σ s.heap)(e:my o lo hi σ.st=some (v,st'))(hx:VR G.KT ρ o x)(hl:VR G.KT ρ lo l)(hh:VR G.KT ρ hi h)(E:Value->Shared->Prop)(Q:Value->Shared->Prop)
  (hQ:∀ρ' a h' tk',ρ<+:ρ'->SR G C ρ' ⟨st',σ.fr⟩ h'->VR G.KT ρ' v a->Q a {s with heap:=h',toks:=tk'}):
  ∃T id,(s.heap.push {cls:=.type "slice",data:=.fields #[l,h,.none]}).get? s.heap.objs.size=some {cls:=.type "slice",data:=.fields #[l,h,.none]}/\
   ({s with heap:=s.heap.push {cls:=.type "slice",data:=.fields #[l,h,.none]}}:Shared).TypeIs x T/\typeLookup (.type T) "__getitem__"=pure (some (.builtin id))/\
   wpAny (model G.prog G.w) C.A (getItem x (.ref s.heap.objs.size)) Q E {s with heap:=s.heap.push {cls:=.type "slice",data:=.fields #[l,h,.none]}}:=by
 refine aQ (rM e) λ plo hplo e=>aQ (rM e) λ phi hphi e=>?_
 refine gc (jW hplo hl) λ il ql z1_ eql=>?_;subst z1_
 refine gc (jW hphi hh) λ ih qh z1_ eqh=>?_;subst z1_
 have S':SR G C ρ σ (s.heap.push {cls:=.type "slice",data:=.fields #[partValue ql,partValue qh,.none]}):=S.ext λ b o e=>av _ e
 cases o with
 |str l'=>
   refine eA (oT e) λ hb e=>?_
   cases e
   refine eE hx λ t z1_=>?_;clear hx;subst z1_
   refine⟨"str",_,aY _ rfl,typeIs_str _ _ _,F.slot_str_getitem.lookup,?_⟩
   refine wpAny_getItem_str_slice (l:=ql) (u:=qh) (st:=none) ⟨_,aY _ rfl,rfl,rfl⟩ rfl ?_
   have key:=vx ⟨l'.toArray⟩ ql qh
   rw[eql,eqh]at key
   have hz:=bA hb
   unfold big at hz
   unfold sliceMade
   split
   ·rename_i hq
    simp only[Bool.and_eq_true,beq_iff_eq]at hq
    have k2:=key.2 hq.2
    exact hQ ρ _ _ s.toks (ah _) S' ⟨t,by rw[show d7 l' plo phi=l' from k2]⟩
   ·refine⟨?_,hQ ρ _ _ (s.toks+1) (ah _) S' ⟨s.toks,by rw[key.1]⟩⟩
    rw[key.1]
    have:=jC l' plo phi
    rw[sizeLine_eq]
    simp[Str.length];exact ω87 this hz
 |ref r=>
   refine aQ (rM e) λ o hst e=>?_
   cases o with
   |list xs=>
   refine eA (oT e) λ hb e=>?_
   cases e
   refine aQ hx λ a ha z1_=>?_;clear hx;subst z1_
   refine bC (S.obj ha hst) λ ob ho vs n z1_ rr=>?_;subst z1_
   have hlen:vs.size=xs.length:=by rw[rr.length];simp
   have hz:=bA hb
   unfold big at hz
   refine⟨"list",_,aY _ rfl,⟨_,av _ ho,rfl⟩,list_getitem_lookup,?_⟩
   have hL:(s.heap.push {cls:=.type "slice",data:=.fields #[partValue ql,partValue qh,.none]}).IsList a vs:=⟨_,av _ ho,rfl,n,rfl⟩
   refine wpAny_getItem_list_slice hL (Heap.IsSliceOf.new ..) il ih .none (by simp) ?_ (by rw[hlen,sizeLine_eq];exact je hz)
   have S2:=S'.push (ob:={cls:=.type "list",data:=.seq (slicePick vs plo phi none)}) (o:=.list (d7 xs plo phi)) rfl ⟨_,_,rfl,by
    rw[j_];exact(rr.slc plo phi).mono (ai _ _)⟩
   refine hQ _ _ _ _ (ai _ _) S2 ⟨_,?_,rfl⟩
   rw[← S.rep.len];simp
   |_=>cases e
 |_=>cases e
end
section
variable{G:Gd}{C:Cx}{ρ:List Addr}{s:Shared}{σ σ' σ'':AS}
theorem tQ {vs:List AV}{xs:List Value}{Q:Value->Shared->Prop}{E:Value->Shared->Prop}(S:SR G C ρ σ s.heap)(r:VRs G.KT ρ vs xs)(hz:Nat.ble vs.length big=true)
  (hQ:∀ρ' a h' tk',ρ<+:ρ'->SR G C ρ' ⟨σ.st++[.list vs],σ.fr⟩ h'->VR G.KT ρ' (.ref σ.st.length) a->Q a {s with heap:=h',toks:=tk'}):
  wpAny (model G.prog G.w) C.A (newList xs) Q E s:=by
 have h1:=bA hz
 unfold big at h1
 refine wpAny_newList ?_ (by rw[← r.length,sizeLine_eq];exact je h1)
 have S2:=S.push (ob:={cls:=.type "list",data:=.seq xs.toArray}) (o:=.list vs) rfl ⟨_,_,rfl,by simpa using r.mono (ai _ _)⟩
 exact hQ _ _ _ _ (ai _ _) S2 ⟨_,by rw[← S.rep.len];simp,rfl⟩
theorem jm {ob:Obj}{o:AO}(S:SR G C ρ σ s.heap)(hf:ob.isFreed=false)(r:OR G.KT (ρ++[s.heap.objs.size]) o ob):
  SR G C (ρ++[s.heap.objs.size]) ⟨σ.st++[o],σ.fr⟩ (s.heap.push ob)/\VR G.KT (ρ++[s.heap.objs.size]) (.ref σ.st.length) (.ref s.heap.objs.size):=
 ⟨S.push hf r,_,by rw[← S.rep.len];simp,rfl⟩
noncomputable def setO (r:Nat)(i:Int)(v:AV)(st:List AO)(o:AO):Option (List AO):=match o with
 |.list xs=>match Nat.ble xs.length big with
  |true=>match i with
   |.ofNat k=>match Nat.blt k xs.length with
    |true=>some (st.set r (.list (xs.set k v)))
    |false=>none
   |.negSucc _=>none
  |false=>none
 |_=>none
noncomputable def s_ (o:AV)(i:Int)(v:AV)(st:List AO):Option (List AO):=match o with
 |.ref r=>(st[r]?).bind (setO r i v st)
 |_=>none
theorem rI {o v:AV}{i:Int}{st':List AO}{x y z:Value}(S:SR G C ρ σ s.heap)(e:s_ o i v σ.st=some st')(hx:VR G.KT ρ o x)(hy:VR G.KT ρ (.int i) y)(hv:VR G.KT ρ v z):
  va G C ρ (setItem x y z) s ⟨st',σ.fr⟩:=by
 refine eE hy λ u z1_=>?_;clear hy;subst z1_
 intro E Q hQ
 cases o with
 |ref r=>
  refine aQ (rM e) λ o hst e=>?_
  cases o with
  |list xs=>
   refine eA (oT e) λ hb e=>?_
   cases i with
   |ofNat k=>
    refine eA (oT e) λ hk e=>?_
    cases e
    refine aQ hx λ a ha z1_=>?_;clear hx;subst z1_
    refine bC (S.obj ha hst) λ ob ho vs n z1_ rr=>?_;subst z1_
    have hlen:vs.size=xs.length:=by rw[rr.length];simp
    have hz:=bA hb
    have hlt:k<xs.length:=bA hk
    unfold big at hz
    refine ki_setAt (items:=vs) (n:=n) ho (Int.natCast_nonneg k) (by simp only[Int.ofNat_eq_natCast];exact ω122 hlt hz) (by simp only[Int.ofNat_eq_natCast];exact ω123 hlt hlen) ?_
    refine hQ ρ _ _ s.toks (ah _) (S.upd ha (bq ..) ⟨_,Heap.get?_update_self _ ho ?_,?_⟩) rfl
    ·rfl
    ·exact⟨_,_,rfl,by simpa using rr.set hv k⟩
   |negSucc k=>cases e
  |_=>cases e
 |_=>cases e
noncomputable def yC (o:AO):Option Int:=match o with
 |.list xs=>match Nat.ble xs.length big with
  |true=>some (.ofNat xs.length)
  |false=>none
 |.tup xs=>match Nat.ble xs.length big with
  |true=>some (.ofNat xs.length)
  |false=>none
 |.range a b c=>match Builtin.Range.rangeSize a b c with
  |.ofNat n=>match Nat.ble n big with
   |true=>some (.ofNat n)
   |false=>none
  |_=>none
 |_=>none
noncomputable def vW (v:AV)(st:List AO):Option Int:=match v with
 |.str l=>match Nat.ble l.length big with
  |true=>some (.ofNat l.length)
  |false=>none
 |.ref r=>(st[r]?).bind yC
 |_=>none
theorem yB {v:AV}{n:Int}{x:Value}(S:SR G C ρ σ s.heap)(e:vW v σ.st=some n)(hx:VR G.KT ρ v x):jS G C ρ (call (.builtin "len") [x]) s (.int n) σ:=by
 intro E Q hQ
 have fin:∀t tk,Q (.int n t) {s with toks:=tk}:=λ t tk=>hQ ρ _ s.heap tk (ah _) S ⟨t,rfl⟩
 cases v with
 |str l=>
  refine eA (oT e) λ hb e=>?_
  refine eE hx λ t z1_=>?_;clear hx;subst z1_
  cases e
  have hz:=bA hb
  unfold big at hz
  have el:(⟨l.toArray⟩:Str).length=l.length:=by simp[Str.length]
  refine P.len_str (by rw[el];exact ω124 hz) ?_
  rw[el];exact fin _ _
 |ref r=>
  refine aQ (rM e) λ o hst e=>?_
  refine aQ hx λ a ha z1_=>?_;clear hx;subst z1_
  cases o with
  |list xs=>
   refine eA (oT e) λ hb e=>?_
   cases e
   refine bC (S.obj ha hst) λ ob ho vs n z1_ rr=>?_;subst z1_
   have hlen:vs.size=xs.length:=by rw[rr.length];simp
   have hz:=bA hb
   unfold big at hz
   refine call_len_list (items:=vs) ⟨_,ho,rfl,n,rfl⟩ (by exact ω30 hlen hz) ?_
   rw[hlen];exact fin _ _
  |tup xs=>
   refine eA (oT e) λ hb e=>?_
   cases e
   refine bC (S.obj ha hst) λ ob ho vs n z1_ rr=>?_;subst z1_
   have hlen:vs.size=xs.length:=by rw[rr.length];simp
   have hz:=bA hb
   unfold big at hz
   refine P.len_tuple (items:=vs) (n:=n) ho (by exact ω121 hlen hz) ?_
   rw[hlen];exact fin _ _
  |range a' b c=>
   replace e:(match Builtin.Range.rangeSize a' b c with|.ofNat n=>(match Nat.ble n big with|true=>some (.ofNat n)|false=>none)|_=>none)=some n:=e
   cases hm:Builtin.Range.rangeSize a' b c with
   |negSucc m=>rw[hm]at e;cases e
   |ofNat m=>
    rw[hm]at e
    refine eA (oT e) λ hb e=>?_
    cases e
    have hz:=bA hb
    unfold big at hz
    refine pK (S.obj ha hst) λ ob ho t u v z1_=>?_;subst z1_
    exact call_len_range (n:=m) (by exact ho) hm (by exact xW hz) (fin _ _)
  |_=>cases e
 |_=>cases e
theorem yv {a b:Int}{x y:Value}(S:SR G C ρ σ s.heap)(hh:C.A.handled=none)(hx:VR G.KT ρ (.int a) x)(hy:VR G.KT ρ (.int b) y):
  jS G C ρ (call (.builtin "min") [x,y]) s (.int (if b<a then b else a)) σ:=by
 refine eE hx λ t z1_=>?_;clear hx;subst z1_
 refine eE hy λ u z1_=>?_;clear hy;subst z1_
 intro E Q hQ
 refine min_two_ints hh λ h' tk hk=>?_
 refine hQ ρ _ h' tk (ah _) (S.ext hk) ?_
 split
 ·exact⟨u,rfl⟩
 ·exact⟨t,rfl⟩
end
noncomputable def rgI (v:AV)(k:Int->Option AO):Option AO:=AV.casesOn (motive:=λ _=>Option AO) v none (λ _=>none) k (λ _=>none) (λ _=>none) (λ _=>none)
noncomputable def rgL (l:List AV)(n:Option AO)(k:AV->List AV->Option AO):Option AO:=List.casesOn (motive:=λ _=>Option AO) l n k
noncomputable def rg3 (a b c:Int):Option AO:=Bool.casesOn (motive:=λ _=>Option AO) (sm a && sm b && sm c) none (Bool.casesOn (motive:=λ _=>Option AO) (decide (c=0)) (some (.range a b c)) none)
noncomputable def pf (vs:List AV):Option AO:=rgL vs none λ x r=>rgI x λ a=>rgL r (some (.range 0 a 1)) λ y r=>rgI y λ b=>rgL r (some (.range a b 1)) λ z r=>rgI z λ c=>rgL r (rg3 a b c) λ _ _=>none
theorem pd {v:AV}{k:Int->Option AO}{o:AO}(h:rgI v k=some o):∃i,v= .int i/\k i=some o:=by
 cases v with
 |int i=>exact⟨i,rfl,h⟩
 |_=>cases h
theorem yn {a b c:Int}{o:AO}(h:rg3 a b c=some o):(sm a && sm b && sm c)=true/\c≠0/\o= .range a b c:=by
 unfold rg3 at h
 cases e:(sm a && sm b && sm c)with
 |false=>rw[e]at h;cases h
 |true=>
  rw[e]at h
  by_cases hc:c=0
  ·rw[decide_eq_true hc]at h;cases h
  ·rw[decide_eq_false hc]at h;exact⟨rfl,hc,(aj h).symm⟩
noncomputable def ph:Nat->Int->Int->List AV
 |0,_,_=>[]
 |n+1,a,c=>.int a::ph n (a+c) c
section
variable{G:Gd}{C:Cx}{ρ:List Addr}{s:Shared}{σ σ' σ'':AS}
theorem tC {vs:List AV}{xs:List Value}{o:AO}(S:SR G C ρ σ s.heap)(e:pf vs=some o)(r:VRs G.KT ρ vs xs):
  jS G C ρ (call (.type "range") xs) s (.ref σ.st.length) ⟨σ.st++[o],σ.fr⟩:=by
 intro E Q hQ
 cases r with
 |nil=>cases e
 |cons ra r=>
 refine aQ (pd e) λ a z0 e=>?_
 rw[z0]at ra
 refine eE ra λ t z1_=>?_
 rw[z1_]
 cases r with
 |nil=>
  refine call_range_1 ?_
  refine eA (jm S (ob:={cls:=.type "range",data:=.fields #[.int 0 s.toks,.int _ t,.int 1 (s.toks+1)]}) (o:=o) rfl ?_) λ S2 v2=>hQ _ _ _ _ (ai _ _) S2 v2
  rw[← aj e]
  exact⟨_,_,_,rfl⟩
 |cons rb r=>
 refine aQ (pd e) λ b z0 e=>?_
 rw[z0]at rb
 refine eE rb λ u z1_=>?_
 rw[z1_]
 cases r with
 |nil=>
  refine call_range_2 ?_
  refine eA (jm S (ob:={cls:=.type "range",data:=.fields #[.int _ t,.int _ u,.int 1 s.toks]}) (o:=o) rfl ?_) λ S2 v2=>hQ _ _ _ _ (ai _ _) S2 v2
  rw[← aj e]
  exact⟨_,_,_,rfl⟩
 |cons rc r=>
 refine aQ (pd e) λ c z0 e=>?_
 rw[z0]at rc
 refine eE rc λ v z1_=>?_
 rw[z1_]
 cases r with
 |nil=>
  refine fT (yn e) λ hs hc ho=>?_
  simp only[Bool.and_eq_true,sm,decide_eq_true_eq]at hs
  refine call_range_3 hc ?_ (.inl (PyProof.noPylong_small (by exact ω208 hs)))
  exact eA (jm S (ob:={cls:=.type "range",data:=.fields #[.int a t,.int b u,.int c v]}) (o:=o) rfl (ho▸⟨_,_,_,rfl⟩)) λ S2 v2=>hQ _ _ _ _ (ai _ _) S2 v2
 |cons _ _=>cases e
theorem mI {a c:Int}{n:Nat}{ρ':List Addr}{acc:List Value}(hl:acc.length=n)(hi:∀(j:Nat) v,acc[j]? =some v->∃t,v= .int (a+j*c) t):VRs G.KT ρ' (ph n a c) acc:=by
 induction n generalizing a acc with
 |zero=>rw[List.length_eq_zero_iff.mp hl];exact .nil
 |succ n ih=>
  cases acc with
  |nil=>cases hl
  |cons x acc=>
   refine .cons ?_ (ih (by simpa using hl) λ j v e=>?_)
   ·refine eE (hi 0 x rfl) λ t h=>?_
    exact⟨t,by rw[h];congr 1;simp⟩
   ·refine eE (hi (j+1) v (by simpa using e)) λ t h=>?_
    refine⟨t,by rw[h];congr 1;rw[Int.natCast_add,Int.add_mul];simp;exact ω205⟩
noncomputable def listO (o:AO):Option (List AV):=match o with
 |.list xs=>match Nat.ble xs.length big with
  |true=>some xs
  |false=>none
 |.tup xs=>match Nat.ble xs.length big with
  |true=>some xs
  |false=>none
 |.range a b c=>match Builtin.Range.small a b c with
  |true=>match Builtin.Range.rangeSize a b c with
   |.ofNat n=>match Nat.ble n 4096 with
    |true=>some (ph n a c)
    |false=>none
   |_=>none
  |false=>none
 |_=>none
noncomputable def xD (v:AV)(st:List AO):Option (List AV):=match v with
 |.ref r=>(st[r]?).bind listO
 |_=>none
theorem vU {v:AV}{vs:List AV}{x:Value}(S:SR G C ρ σ s.heap)(hh:C.A.handled=none)(e:xD v σ.st=some vs)(hx:VR G.KT ρ v x):
  jS G C ρ (call (.type "list") [x]) s (.ref σ.st.length) ⟨σ.st++[.list vs],σ.fr⟩:=by
 intro E Q hQ
 have fin:∀(h':Heap) (tk:Nat) (its:Array Value) (c':Nat),(∀b o,s.heap.get? b=some o->h'.get? b=some o)->h'.get? s.heap.objs.size=some {cls:=.type "list",dict:=none,data:=.seq its c',slots:=#[]}->
   VRs G.KT ρ vs its.toList->Q (.ref s.heap.objs.size) {s with heap:=h',toks:=tk}:=by
  intro h' tk its c' hk ho rr
  have S1:=S.ext hk
  have p:ρ<+:ρ++[s.heap.objs.size]:=ai _ _
  have hn:s.heap.objs.size∉ρ:=λ q=>aM _ (S.rep.lt q)
  have hB:C.B s.heap.objs.size=none:=by
   cases q:C.B s.heap.objs.size with
   |none=>rfl
   |some o=>exact absurd (BO.ok.lt S.big (S.rep.kept _ _ q)) (aM _)
  refine hQ _ _ h' tk p ⟨⟨S1.rep.kept,by simp[S.rep.len],?_,?_,?_⟩,S1.fr.mono p,?_,S.cells.mono p,S.ok⟩ ⟨_,by rw[← S.rep.len];simp,rfl⟩
  ·rw[List.nodup_append]
   exact⟨S.rep.nd,by simp,λ a ha b hb q=>by
    rw[List.mem_singleton]at hb
    exact hn (by rw[← hb,← q];exact ha)⟩
  ·intro a ha
   rcases bn.mp ha with ha|ha
   ·exact S.rep.off a ha
   ·rw[List.mem_singleton.mp ha];exact hB
  ·intro i a o e1 e2
   by_cases hi:i<ρ.length
   ·rw[aL hi]at e1
    rw[aL (S.rep.len▸hi)]at e2
    refine aQ (S1.rep.obj i a o e1 e2) λ ob z q=>?_
    exact⟨ob,z,q.mono p⟩
   ·have hi':=Nat.le_of_not_lt hi
    rw[az hi']at e1
    rw[az (S.rep.len▸hi')]at e2
    have z:i - ρ.length=0:=by
     have:=(aa.mp e1).1
     simp at this;exact ω0 this
    rw[z]at e1
    rw[← S.rep.len,z]at e2
    simp at e1 e2
    subst e1 e2
    exact⟨_,ho,its,c',rfl,rr.mono p⟩
  ·intro hm
   rcases bn.mp hm with hm|hm
   ·exact S.Lρ hm
   ·exact absurd (List.mem_singleton.mp hm) (Nat.ne_of_lt S.lnlt)
 cases v with
 |ref r=>
  refine aQ (rM e) λ o hst e=>?_
  refine aQ hx λ a ha z1_=>?_;clear hx;subst z1_
  cases o with
  |list xs=>
   refine eA (oT e) λ hb e=>?_
   cases(e)
   refine bC (S.obj ha hst) λ ob ho its n z1_ rr=>?_;subst z1_
   have hz:=bA hb
   unfold big at hz
   have hlen:its.size=vs.length:=by rw[rr.length];simp
   exact call_list_seq (items:=its) (n:=n) a (.inl rfl) ho rfl rfl (λ h' c' hk hn=>fin h' s.toks its c' hk hn rr) (by rw[hlen,sizeLine_eq];exact je hz)
  |tup xs=>
   refine eA (oT e) λ hb e=>?_
   cases(e)
   refine bC (S.obj ha hst) λ ob ho its n z1_ rr=>?_;subst z1_
   have hz:=bA hb
   unfold big at hz
   have hlen:its.size=vs.length:=by rw[rr.length];simp
   exact call_list_seq (items:=its) (n:=n) a (.inr rfl) ho rfl rfl (λ h' c' hk hn=>fin h' s.toks its c' hk hn rr) (by rw[hlen,sizeLine_eq];exact je hz)
  |range a' b c=>
   refine eA (oT e) λ hsm e=>?_
   cases hn:Builtin.Range.rangeSize a' b c with
   |negSucc m=>rw[hn]at e;cases e
   |ofNat n=>
    rw[hn]at e
    refine eA (oT e) λ hb e=>?_
    cases e
    have hz:=bA hb
    refine pK (S.obj ha hst) λ ob ho t u v z1_=>?_;subst z1_
    refine call_list_range (n:=n) hh (by exact ho) hsm hn (by exact ω206 hz) λ h' tk acc' c' hk hn' hi=>?_
    exact fin h' tk acc' c' hk hn' (mI (by simpa using hi.1) λ j v e=>hi.2 j v (by simpa using e))
  |_=>cases e
 |_=>cases e
noncomputable def catO (o p:AO):Option (List AV):=match o with
 |.list xs=>match p with
  |.list ys=>match Nat.ble (xs.length+ys.length) big with
   |true=>some (xs++ys)
   |false=>none
  |_=>none
 |_=>none
noncomputable def wG (a b:AV)(st:List AO):Option (List AV):=match a with
 |.ref i=>match b with
  |.ref j=>(st[i]?).bind λ o=>(st[j]?).bind (catO o)
  |_=>none
 |_=>none
theorem zf {a b:AV}{vs:List AV}{x y:Value}(S:SR G C ρ σ s.heap)(e:wG a b σ.st=some vs)(hx:VR G.KT ρ a x)(hy:VR G.KT ρ b y):
  jS G C ρ (binaryOp .Add x y) s (.ref σ.st.length) ⟨σ.st++[.list vs],σ.fr⟩:=by
 intro E Q hQ
 cases a with
 |ref i=>
  cases b with
  |ref j=>
   refine aQ (rM e) λ o h1 e=>aQ (rM e) λ p h2 e=>?_
   cases o with
   |list xs=>
    cases p with
    |list ys=>
     refine eA (oT e) λ hz e=>?_
     cases e
     refine aQ hx λ a ha z1_=>?_;clear hx;subst z1_
     refine aQ hy λ b hb z1_=>?_;clear hy;subst z1_
     refine bC (S.obj ha h1) λ ob1 ho1 v1 n1 z1_ r1=>?_;subst z1_
     refine bC (S.obj hb h2) λ ob2 ho2 v2 n2 z1_ r2=>?_;subst z1_
     have hz:=bA hz
     unfold big at hz
     have l1:v1.size=xs.length:=by rw[r1.length];simp
     have l2:v2.size=ys.length:=by rw[r2.length];simp
     refine P.add_list (items:=v1) (items2:=v2) (n:=n1) (n2:=n2) ho1 ho2 ?_ (by rw[l1,l2,sizeLine_eq];exact ω207 hz)
     refine eA (jm S (ob:={cls:=.type "list",data:=.seq (v1++v2)}) (o:=.list (xs++ys)) rfl ⟨_,_,rfl,by
      rw[Array.toList_append];exact(r1.append r2).mono (ai _ _)⟩) λ S2 q2=>?_
     exact hQ _ _ _ _ (ai _ _) S2 q2
    |_=>cases e
   |_=>cases e
  |_=>cases e
 |_=>cases e
end
structure Dn where
 cs:List (Option Nat)
 d:Nat
 hn:Bool
 kt:Nat->Option (List AV)
inductive RV where
 |no|ok (v:AV) (σ:AS)
inductive RB where
 |no|ok (b:Bool) (σ:AS)
inductive RS where
 |no|ok (vs:List AV) (σ:AS)
inductive RU where
 |no|ok (σ:AS)
inductive RF where
 |no|nx (σ:AS)|br (σ:AS)|ct (σ:AS)|rt (v:AV) (σ:AS)
noncomputable def RV.b {β:Type u}(r:RV)(n:β)(k:AV->AS->β):β:=RV.rec (motive:=λ _=>β) n k r
noncomputable def RB.b {β:Type u}(r:RB)(n:β)(k:Bool->AS->β):β:=RB.rec (motive:=λ _=>β) n k r
noncomputable def RS.b {β:Type u}(r:RS)(n:β)(k:List AV->AS->β):β:=RS.rec (motive:=λ _=>β) n k r
noncomputable def RU.b {β:Type u}(r:RU)(n:β)(k:AS->β):β:=RU.rec (motive:=λ _=>β) n k r
noncomputable def Op.b {α:Type u}{β:Type u}(r:Option α)(n:β)(k:α->β):β:=Option.rec (motive:=λ _=>β) n k r
noncomputable def bb {β:Type u}(b:Bool)(t e:β):β:=Bool.rec (motive:=λ _=>β) e t b
theorem oG {β:Type u}(b:Bool)(t e:β):bb b t e=if b=true then t else e:=by cases b<;>rfl
noncomputable def AV.i {β:Type u}(v:AV)(n:β)(k:Int->β):β:=AV.rec (motive:=λ _=>β) n (λ _=>n) k (λ _=>n) (λ _=>n) (λ _=>n) v
noncomputable def AV.s {β:Type u}(v:AV)(n:β)(k:List Nat->β):β:=AV.rec (motive:=λ _=>β) n (λ _=>n) (λ _=>n) k (λ _=>n) (λ _=>n) v
noncomputable def AV.r {β:Type u}(v:AV)(n:β)(k:Nat->β):β:=AV.rec (motive:=λ _=>β) n (λ _=>n) (λ _=>n) (λ _=>n) k (λ _=>n) v
noncomputable def fN {β:Type u}(n:Nat)(k:Nat->β):β:=Nat.rec (motive:=λ _=>β) (k 0) (λ m _=>k (Nat.succ m)) n
theorem qI {β:Type u}(n:Nat)(k:Nat->β):fN n k=k n:=by cases n<;>rfl
noncomputable def fI {β:Type u}(i:Int)(k:Int->β):β:=Int.rec (motive:=λ _=>β) (λ n=>fN n λ m=>k (.ofNat m)) (λ n=>fN n λ m=>k (.negSucc m)) i
theorem ek {β:Type u}(i:Int)(k:Int->β):fI i k=k i:=by
 cases i with
 |ofNat n=>exact qI n λ m=>k (.ofNat m)
 |negSucc n=>exact qI n λ m=>k (.negSucc m)
noncomputable def cy {α:Type}(l:List α)(i:Nat):Option α:=Nat.rec (motive:=λ _=>List α->Option α) (λ l=>List.rec (motive:=λ _=>Option α) none (λ a _ _=>some a) l) (λ _ ih l=>List.rec (motive:=λ _=>Option α) none (λ _ t _=>ih t) l) i l
theorem aS {α:Type}(l:List α):∀i,cy l i=l[i]? :=by
 induction l with
 |nil=>intro i;cases i<;>rfl
 |cons a l ih=>
  intro i
  cases i with
  |zero=>rfl
  |succ i=>exact ih i
noncomputable def cr {α:Type}(l:List α)(i:Nat)(v:α):List α:=Nat.rec (motive:=λ _=>List α->List α) (λ l=>List.rec (motive:=λ _=>List α) [] (λ _ t _=>v::t) l) (λ _ ih l=>List.rec (motive:=λ _=>List α) [] (λ a t _=>a::ih t) l) i l
theorem bw {α:Type}(l:List α):∀i v,cr l i v=l.set i v:=by
 induction l with
 |nil=>intro i v;cases i<;>rfl
 |cons a l ih=>
  intro i v
  cases i with
  |zero=>rfl
  |succ i=>exact congrArg (a::·) (ih i v)
noncomputable abbrev EF:=Dn->AS->RV
noncomputable abbrev TF:=Dn->AS->RB
noncomputable abbrev LF:=Dn->AS->RS
noncomputable abbrev SF:=Dn->AS->RF
noncomputable abbrev GF:=Dn->AV->AS->RU
noncomputable def cC (v:AV):EF:=λ _ σ=>.ok v σ
noncomputable def oW (i:Nat)(σ:AS):RV:=Op.b (cy σ.fr i) .no λ o=>Op.b o .no λ v=>.ok v σ
noncomputable def AO.c {β:Type u}(o:AO)(n:β)(k:Option AV->β):β:=AO.casesOn (motive:=λ _=>β) o n (λ _=>n) (λ _=>n) (λ _ _ _=>n) k (λ _ _ _=>n) (λ _ _=>n) (λ _ _ _=>n) (λ _ _ _=>n) (λ _ _=>n) (λ _=>n) (λ _=>n)
noncomputable def vj (k:Nat)(σ:AS):RV:=Op.b (cy σ.st k) .no λ o=>o.c .no λ v=>Op.b v .no λ v=>.ok v σ
noncomputable def cV (i:Nat):EF:=λ D σ=>Op.b (cy D.cs i) (oW i σ) λ o=>Op.b o (oW i σ) λ k=>vj k σ
noncomputable def nz (a:EF):EF:=λ D σ=>(a D σ).b .no λ x σ1=>x.i .no λ i=>fI (-i) λ c=>.ok (.int c) σ1
noncomputable def eS (f:Int->Int->RV->(Int->RV)->RV)(a b:EF):EF:=λ D σ=>(a D σ).b .no λ x σ1=>(b D σ1).b .no λ y σ2=>x.i .no λ m=>y.i .no λ n=>f m n .no λ c=>fI c λ c=>.ok (.int c) σ2
noncomputable def dN (m n:Int)(_:RV)(k:Int->RV):RV:=k (m+n)
noncomputable def eW (m n:Int)(_:RV)(k:Int->RV):RV:=k (m - n)
noncomputable def tK (m n:Int)(z:RV)(k:Int->RV):RV:=bb (sm m) (k (m*n)) z
noncomputable def cK (f:Int->Int->Bool)(a b:EF):TF:=λ D σ=>(a D σ).b .no λ x σ1=>(b D σ1).b .no λ y σ2=>x.i .no λ m=>y.i .no λ n=>.ok (f m n) σ2
noncomputable def l8 (a b:EF):TF:=λ D σ=>(a D σ).b .no λ x σ1=>(b D σ1).b .no λ y σ2=>x.i (x.s .no λ l=>y.s .no λ r=>.ok (si l r) σ2) λ m=>y.i .no λ n=>.ok (m == n) σ2
noncomputable def tE (a:EF):TF:=λ D σ=>(a D σ).b .no λ x σ1=>Op.b (vd x σ1.st) .no λ b=>.ok b σ1
noncomputable def lx (a:TF):TF:=λ D σ=>(a D σ).b .no λ b σ1=>.ok (!b) σ1
noncomputable def o3 (a b:TF):TF:=λ D σ=>(a D σ).b .no λ x σ1=>bb x (b D σ1) (.ok false σ1)
noncomputable def p7 (a b:TF):TF:=λ D σ=>(a D σ).b .no λ x σ1=>bb x (.ok true σ1) (b D σ1)
noncomputable def wI (a b:EF):EF:=λ D σ=>(a D σ).b .no λ x σ1=>Op.b (vd x σ1.st) .no λ t=>bb t (.ok x σ1) (b D σ1)
noncomputable def bN (a b:EF):EF:=λ D σ=>(a D σ).b .no λ x σ1=>(b D σ1).b .no λ y σ2=>y.i .no λ n=>Op.b (rQ x n σ2.st) .no λ v=>.ok v σ2
noncomputable def f6 (a l h:EF):EF:=λ D σ=>(a D σ).b .no λ x σ1=>(l D σ1).b .no λ y σ2=>(h D σ2).b .no λ z σ3=>Op.b (my x y z σ3.st) .no λ p=>.ok p.1 ⟨p.2,σ3.fr⟩
noncomputable def aI:LF:=λ _ σ=>.ok [] σ
noncomputable def aq (a:EF)(r:LF):LF:=λ D σ=>(a D σ).b .no λ x σ1=>(r D σ1).b .no λ xs σ2=>.ok (x::xs) σ2
noncomputable def nR (k:Nat)(v:AV)(σ:AS):RU:=Op.b (cy σ.st k) .no λ o=>o.c .no λ _=>.ok ⟨cr σ.st k (.cell (some v)),σ.fr⟩
noncomputable def vB (i:Nat)(v:AV)(σ:AS):RU:=.ok ⟨σ.st,cr σ.fr i (some v)⟩
noncomputable def gV (i:Nat):GF:=λ D v σ=>Op.b (cy D.cs i) (vB i v σ) λ o=>Op.b o (vB i v σ) λ k=>nR k v σ
noncomputable def gSub (a b:EF):GF:=λ D v σ=>(a D σ).b .no λ x σ1=>(b D σ1).b .no λ y σ2=>y.i .no λ n=>Op.b (s_ x n v σ2.st) .no λ st'=>.ok ⟨st',σ2.fr⟩
noncomputable def g2 (a b:GF):GF:=λ D v σ=>(a D v σ).b .no λ σ1=>b D v σ1
noncomputable def bv (t:GF)(a:EF):SF:=λ D σ=>(a D σ).b .no λ v σ1=>(t D v σ1).b .no λ σ2=>.nx σ2
noncomputable def vM (i:Nat)(f:Int->Int->RV->(Int->RV)->RV)(a:EF):SF:=λ D σ=>(eS f (cV i) a D σ).b .no λ v σ1=>(gV i D v σ1).b .no λ σ2=>.nx σ2
noncomputable def dL (t:TF)(a b:SF):SF:=λ D σ=>(t D σ).b .no λ x σ1=>bb x (a D σ1) (b D σ1)
noncomputable def cE (a:EF):SF:=λ D σ=>(a D σ).b .no λ v σ1=>.rt v σ1
noncomputable def vL:SF:=λ _ σ=>.br σ
noncomputable def sCnt:SF:=λ _ σ=>.ct σ
noncomputable def aC:SF:=λ _ σ=>.nx σ
noncomputable def ao (a r:SF):SF:=λ D σ=>RF.rec (motive:=λ _=>RF) .no (λ σ1=>r D σ1) .br .ct .rt (a D σ)
noncomputable def dS:SF:=λ _ _=>.no
noncomputable def kh (n:Nat)(t:TF)(b o:SF)(D:Dn):AS->RF:=Nat.rec (motive:=λ _=>AS->RF) (λ _=>.no) (λ _ ih σ=>(t D σ).b .no λ x σ1=>bb x (RF.rec (motive:=λ _=>RF) .no ih .nx ih .rt (b D σ1)) (o D σ1)) n
noncomputable def rK (n:Nat)(t:TF)(b o:SF):SF:=λ D σ=>kh n t b o D σ
inductive IT where
 |li (r:Nat)|tu (r:Nat)|kt (i:Nat) (xs:List AV)|rg (a c:Int) (n:Nat)|dk (r n ep:Nat)|dv (r n ep:Nat)
noncomputable def itO (r:Nat)(st:List AO)(o:AO):Option IT:=AO.casesOn (motive:=λ _=>Option IT) o none (λ _=>some (.li r)) (λ _=>some (.tu r)) (λ a b c=>bb (Builtin.Range.small a b c) (some (.rg a c (Builtin.Range.rangeSize a b c).toNat)) none) (λ _=>none) (λ _ kvs ep=>some (.dk r kvs.length ep)) (λ _ _=>none) (λ _ _ _=>none) (λ _ _ _=>none) (λ _ _=>none) (λ _=>none)
 (λ d=>Op.b (cy st d) none λ o=>AO.casesOn (motive:=λ _=>Option IT) o none (λ _=>none) (λ _=>none) (λ _ _ _=>none) (λ _=>none) (λ _ kvs ep=>some (.dv d kvs.length ep)) (λ _ _=>none) (λ _ _ _=>none) (λ _ _ _=>none) (λ _ _=>none) (λ _=>none) (λ _=>none))
noncomputable def cF (kt:Nat->Option (List AV))(x:AV)(st:List AO):Option IT:=AV.casesOn (motive:=λ _=>Option IT) x none (λ _=>none) (λ _=>none) (λ _=>none) (λ r=>Op.b (cy st r) none λ o=>itO r st o) (λ i=>Op.b (kt i) none λ xs=>some (.kt i xs))
theorem gn {kt:Nat->Option (List AV)}{r:Nat}{st:List AO}{o:AO}(h:st[r]? =some o):cF kt (.ref r) st=itO r st o:=by
 show Op.b (cy st r) none (λ o=>itO r st o)=_
 rw[aS,h]
 rfl
noncomputable def b7 (it:IT)(k:Nat)(st:List AO):Option (Option AV):=match it with
 |.li r=>Op.b (cy st r) none λ o=>match o with
  |.list xs=>some (cy xs k)
  |_=>none
 |.tu r=>Op.b (cy st r) none λ o=>match o with
  |.tup xs=>some (cy xs k)
  |_=>none
 |.kt _ xs=>some (cy xs k)
 |.dk r n ep=>Op.b (cy st r) none λ o=>match o with
  |.dict _ kvs ep'=>bb (Nat.beq kvs.length n) (bb (Nat.beq ep' ep) (some (Op.b (cy kvs k) none λ p=>some p.1)) none) none
  |_=>none
 |.dv r n ep=>Op.b (cy st r) none λ o=>match o with
  |.dict _ kvs ep'=>bb (Nat.beq kvs.length n) (bb (Nat.beq ep' ep) (some (Op.b (cy kvs k) none λ p=>some p.2)) none) none
  |_=>none
 |.rg a c n=>bb (Nat.ble n k) (some none) (fI (a+(Int.ofNat k)*c) λ i=>some (some (.int i)))
theorem mL {st:List AO}{r k:Nat}{xs:List AV}(h:st[r]? =some (.list xs)):b7 (.li r) k st=some xs[k]? :=by
 show Op.b (cy st r) none _=_
 rw[aS,h,← aS]
 rfl
theorem iZ {st:List AO}{r k:Nat}{xs:List AV}(h:st[r]? =some (.tup xs)):b7 (.tu r) k st=some xs[k]? :=by
 show Op.b (cy st r) none _=_
 rw[aS,h,← aS]
 rfl
noncomputable def cb (n:Nat)(t:GF)(b o:SF)(D:Dn)(it:IT):Nat->AS->RF:=Nat.rec (motive:=λ _=>Nat->AS->RF) (λ _ _=>.no)
 (λ _ ih k σ=>Op.b (b7 it k σ.st) .no λ z=>Option.rec (motive:=λ _=>RF) (o D σ) (λ v=>(t D v σ).b .no λ σ1=>RF.rec (motive:=λ _=>RF) .no (ih (Nat.succ k)) .nx (ih (Nat.succ k)) .rt (b D σ1)) z) n
noncomputable def dM (n:Nat)(t:GF)(a:EF)(b o:SF):SF:=λ D σ=>bb D.hn ((a D σ).b .no λ x σ1=>Op.b (cF D.kt x σ1.st) .no λ it=>cb n t b o D it 0 σ1) .no
noncomputable def f_ (vs:List AV)(n:Nat):List (Option AV):=vs.map some++List.replicate (n - vs.length) none
noncomputable def cm (np n:Nat)(b:SF)(D:Dn)(vs:List AV)(σ:AS):RV:=bb (Nat.beq vs.length np) (Nat.rec (motive:=λ _=>RV) .no (λ d _=>RF.rec (motive:=λ _=>RV) .no (λ σ'=>.ok .none ⟨σ'.st,σ.fr⟩) (λ _=>.no) (λ _=>.no) (λ v σ'=>.ok v ⟨σ'.st,σ.fr⟩) (b ⟨[],d,D.hn,D.kt⟩ ⟨σ.st,f_ vs n⟩)) D.d) .no
section inv
variable{β:Type u}{n z:β}
theorem RV.inv {r:RV}{k:AV->AS->β}(h:r.b n k=z)(hz:n≠z):∃v σ,r= .ok v σ/\k v σ=z:=by
 cases r with
 |no=>exact absurd h hz
 |ok v σ=>exact⟨v,σ,rfl,h⟩
theorem RB.inv {r:RB}{k:Bool->AS->β}(h:r.b n k=z)(hz:n≠z):∃v σ,r= .ok v σ/\k v σ=z:=by
 cases r with
 |no=>exact absurd h hz
 |ok v σ=>exact⟨v,σ,rfl,h⟩
theorem RS.inv {r:RS}{k:List AV->AS->β}(h:r.b n k=z)(hz:n≠z):∃v σ,r= .ok v σ/\k v σ=z:=by
 cases r with
 |no=>exact absurd h hz
 |ok v σ=>exact⟨v,σ,rfl,h⟩
theorem RU.inv {r:RU}{k:AS->β}(h:r.b n k=z)(hz:n≠z):∃σ,r= .ok σ/\k σ=z:=by
 cases r with
 |no=>exact absurd h hz
 |ok σ=>exact⟨σ,rfl,h⟩
theorem Op.inv {α:Type u}{r:Option α}{k:α->β}(h:Op.b r n k=z)(hz:n≠z):∃a,r=some a/\k a=z:=by
 cases r with
 |none=>exact absurd h hz
 |some a=>exact⟨a,rfl,h⟩
theorem u6 {b:Bool}{t:β}(h:bb b t n=z)(hz:n≠z):b=true/\t=z:=by
 cases b with
 |false=>exact absurd h hz
 |true=>exact⟨rfl,h⟩
theorem AV.i_inv {v:AV}{k:Int->β}(h:v.i n k=z)(hz:n≠z):∃i,v= .int i/\k i=z:=by
 cases v<;>first|exact absurd h hz|exact⟨_,rfl,h⟩
theorem AV.s_inv {v:AV}{k:List Nat->β}(h:v.s n k=z)(hz:n≠z):∃i,v= .str i/\k i=z:=by
 cases v<;>first|exact absurd h hz|exact⟨_,rfl,h⟩
theorem AV.r_inv {v:AV}{k:Nat->β}(h:v.r n k=z)(hz:n≠z):∃i,v= .ref i/\k i=z:=by
 cases v<;>first|exact absurd h hz|exact⟨_,rfl,h⟩
theorem AO.c_inv {o:AO}{k:Option AV->β}(h:o.c n k=z)(hz:n≠z):∃v,o= .cell v/\k v=z:=by
 cases o<;>first|exact absurd h hz|exact⟨_,rfl,h⟩
end inv
structure Nm where
 vn:List Str
 gs:List Str
 fn:Bool
noncomputable def Cx.dn (C:Cx):Dn:=⟨C.cs,C.d,C.hn,C.kt⟩
noncomputable def Cx.is (C:Cx)(N:Nm):Prop:=C.nms=N.vn/\C.gs=N.gs/\(N.fn=true->∃l,C.A.frames=some (C.env::l))
section
variable(G:Gd)(N:Nm)
noncomputable def SE (f:EF)(e:PySem.Expr):Prop:=∀(C:Cx),C.is N->∀(σ σ':AS) (v:AV),f C.dn σ= .ok v σ'->∀(ρ:List Addr) (s:Shared),SR G C ρ σ s.heap->jS G C ρ (eval e C.env) s v σ'
noncomputable def ST (f:TF)(e:PySem.Expr):Prop:=∀(C:Cx),C.is N->∀(σ σ':AS) (b:Bool),f C.dn σ= .ok b σ'->∀(ρ:List Addr) (s:Shared),SR G C ρ σ s.heap->RuB G C ρ (isTrue e C.env (eval e C.env)) s b σ'
noncomputable def SL (f:LF)(es:List PySem.Expr):Prop:=∀(C:Cx),C.is N->∀(σ σ':AS) (vs:List AV),f C.dn σ= .ok vs σ'->∀(ρ:List Addr) (s:Shared) (pos:Pos),SR G C ρ σ s.heap->RuVs G C ρ (spliced (backTo pos (starEach es C.env))) s vs σ'
noncomputable def SG (f:GF)(e:PySem.Expr):Prop:=∀(C:Cx),C.is N->∀(σ σ':AS) (v:AV),f C.dn v σ= .ok σ'->∀(ρ:List Addr) (s:Shared) (x:Value),VR G.KT ρ v x->SR G C ρ σ s.heap->va G C ρ (assign e C.env x) s σ'
end
section
variable{G:Gd}{N:Nm}
theorem cM {p:Pos}{k:Nat}:SE G N (cC .none) (.Constant .none k p):=by
 intro C hC σ σ' v h ρ s S
 cases h
 exact λ E Q hQ=>wpAny_Constant_none (hQ ρ _ s.heap s.toks (ah _) S rfl)
theorem mD {p:Pos}{k:Nat}{b:Bool}:SE G N (cC (.bool b)) (.Constant (.bool b) k p):=by
 intro C hC σ σ' v h ρ s S
 cases h
 exact λ E Q hQ=>wpAny_Constant_bool (hQ ρ _ s.heap s.toks (ah _) S rfl)
theorem ba {p:Pos}{k:Nat}{i:Int}:SE G N (cC (.int i)) (.Constant (.int i) k p):=by
 intro C hC σ σ' v h ρ s S
 cases h
 exact λ E Q hQ=>wpAny_Constant_int (hQ ρ _ s.heap _ (ah _) S ⟨_,rfl⟩)
theorem mA {p:Pos}{k:Nat}{x:Str}{l:List Nat}(e:x=⟨l.toArray⟩):SE G N (cC (.str l)) (.Constant (.str x) k p):=by
 intro C hC σ σ' v h ρ s S
 cases h
 exact λ E Q hQ=>wpAny_Constant_str (hQ ρ _ s.heap _ (ah _) S ⟨_,by rw[e]⟩)
theorem pZ {i:Nat}{σ σ':AS}{v:AV}(h:oW i σ= .ok v σ'):σ.fr[i]? =some (some v)/\σ=σ':=by
 refine aQ (Op.inv h (by nofun)) λ o h1 h=>?_
 refine aQ (Op.inv h (by nofun)) λ w h2 h=>?_
 cases h
 rw[aS]at h1
 exact⟨by rw[h1,h2],rfl⟩
theorem xO {i:Nat}{D:Dn}{σ σ':AS}{v:AV}(h:cV i D σ= .ok v σ'):bG D.cs σ i=some v/\σ=σ':=by
 unfold cV at h
 unfold bG
 rw[aS]at h
 cases e:D.cs[i]? with
 |none=>
  rw[e]at h
  refine eA (pZ h) λ h1 h2=>?_
  exact⟨by simp only[h1],h2⟩
 |some o=>
  rw[e]at h
  cases o with
  |none=>
   refine eA (pZ h) λ h1 h2=>?_
   exact⟨by simp only[h1],h2⟩
  |some k=>
   refine aQ (Op.inv (show vj k σ=_ from h) (by nofun)) λ o h1 h=>?_
   refine aQ (AO.c_inv h (by nofun)) λ w h2 h=>?_
   refine aQ (Op.inv h (by nofun)) λ w' h3 h=>?_
   cases h
   rw[aS]at h1
   subst h2 h3
   exact⟨by simp only[h1],rfl⟩
theorem af {p:Pos}{i:Nat}{x:Str}(hx:N.vn[i]? =some x):SE G N (cV i) (.Name x p):=by
 intro C hC σ σ' v h ρ s S
 refine eA (xO h) λ h1 z1_=>?_;subst z1_
 exact sE S (by rw[hC.1];exact hx) h1
theorem qF {C:Cx}{ρ:List Addr}{s:Shared}{σ:AS}{x:Str}{p:Pos}{y:Value}{E:Value->Shared->Prop}{Q:Value->Shared->Prop}(S:SR G C ρ σ s.heap)(hx:x∈C.gs)(hy:nsIn G.K mainGlobals x=some (some y))(h:Q y s):
  wpAny (model G.prog G.w) C.A (eval (.Name x p) C.env) Q E s:=by
 refine eA (S.ok.glo x hx) λ hk hd=>?_
 refine Name_function_global S.ok.fn hk (loadGlobal_global (env:=C.env) (mg:=G.mg) (by rw[S.ok.gl];exact S.g) ?_ h) hd
 exact mg_of (S.ok.kin _ S.rep.kept) S.g hy
theorem zj {C:Cx}{ρ:List Addr}{s:Shared}{σ:AS}{x:Str}{p:Pos}{y:Value}{E:Value->Shared->Prop}{Q:Value->Shared->Prop}(S:SR G C ρ σ s.heap)(hx:x∈C.gs)(hy:nsIn G.K mainGlobals x=some none)(hb:bootBuiltins x=some y)(hn:x≠"__name__")(h:Q y s):
  wpAny (model G.prog G.w) C.A (eval (.Name x p) C.env) Q E s:=by
 refine eA (S.ok.glo x hx) λ hk hd=>?_
 have t:=S.ok.top _ S.rep.kept
 exact Name_function_global S.ok.fn hk (loadGlobal_builtin (env:=C.env) (mg:=G.mg) (mb:=G.mb) (by rw[S.ok.gl];exact S.g) (mg_none_of (S.ok.kin _ S.rep.kept) S.g hy) (by rw[S.ok.bi];exact t.b) ((t.builtins x hn).trans hb) h) hd
theorem qk {p:Pos}{x:Str}{v:AV}{y:Value}(hx:x∈N.gs)(hy:nsIn G.K mainGlobals x=some (some y))(hr:VR G.KT [] v y):SE G N (cC v) (.Name x p):=by
 intro C hC σ σ' v' h ρ s S
 cases h
 intro E Q hQ
 exact qF S (by rw[hC.2.1];exact hx) hy (hQ ρ y s.heap s.toks (ah _) S (hr.mono (List.nil_prefix ..)))
theorem o8 {a:EF}{e:PySem.Expr}{p:Pos}(ha:SE G N a e):SE G N (nz a) (.UnaryOp .USub e p):=by
 intro C hC σ σ' v h ρ s S
 refine ez (RV.inv h (by nofun)) λ x σ1 h1 h=>?_
 refine aQ (AV.i_inv h (by nofun)) λ i hi h'=>?_
 subst hi
 rw[ek]at h'
 cases h'
 intro E Q hQ
 refine wpAny_UnaryOp (ha C hC _ _ _ h1 ρ s S E _ λ ρ' y h' tk' p' S' r=>?_)
 refine eE r λ t z1_=>?_;clear r;subst z1_
 exact neg_int (hQ ρ' _ h' _ p' S' ⟨_,rfl⟩)
theorem xx {a b:EF}{ea eb:PySem.Expr}(ha:SE G N a ea)(hb:SE G N b eb){C:Cx}(hC:C.is N){σ σ1 σ2:AS}{x y:AV}(h1:a C.dn σ= .ok x σ1)(h2:b C.dn σ1= .ok y σ2){ρ:List Addr}{s:Shared}(S:SR G C ρ σ s.heap)
  {E:Value->Shared->Prop} {Q:Value->Shared->Prop} {t:Value->Value->Sem Value}
  (h:∀ρ' u v h' tk',ρ<+:ρ'->SR G C ρ' σ2 h'->VR G.KT ρ' x u->VR G.KT ρ' y v->wpAny (model G.prog G.w) C.A (t u v) Q E {s with heap:=h',toks:=tk'}):
  wpAny (model G.prog G.w) C.A (eval ea C.env) (λ u s'1=>wpAny (model G.prog G.w) C.A (eval eb C.env) (λ v s'2=>wpAny (model G.prog G.w) C.A (t u v) Q E s'2) E s'1) E s:=
 ha C hC _ _ _ h1 ρ s S E _ λ _ u h' tk' p S' r=>hb C hC _ _ _ h2 _ ⟨h',s.gens,s.drawn,tk',s.os⟩ S' E _ λ ρ'' v h'' tk'' p' S'' r'=>h ρ'' u v h'' tk'' (p.trans p') S'' (r.mono p') r'
theorem dy {op:Operator}{f:Int->Int->RV->(Int->RV)->RV}{a b:EF}{ea eb:PySem.Expr}{p:Pos}(hf:∀m n k v σ,f m n .no k= .ok v σ->∃c,fL op m n=some c/\k c= .ok v σ)(ha:SE G N a ea)(hb:SE G N b eb):
  SE G N (eS f a b) (.BinOp ea op eb p):=by
 intro C hC σ σ' v h ρ s S
 refine ez (RV.inv h (by nofun)) λ x σ1 h1 h=>?_
 refine ez (RV.inv h (by nofun)) λ y σ2 h2 h=>?_
 refine aQ (AV.i_inv h (by nofun)) λ m hm h'1=>?_
 refine aQ (AV.i_inv h'1 (by nofun)) λ n hn h'2=>?_
 subst hm hn
 refine aQ (hf _ _ _ _ _ h'2) λ c hc h'3=>?_
 rw[ek]at h'3
 cases h'3
 intro E Q hQ
 refine wpAny_BinOp (xx ha hb hC h1 h2 S λ ρ' u v h' tk' p' S' ru rv=>?_)
 exact j3 (s:=⟨h',s.gens,s.drawn,tk',s.os⟩) S' hc ru rv E Q λ ρ'' a h'' tk'' p'' S'' r''=>hQ ρ'' a h'' tk'' (p'.trans p'') S'' r''
theorem fB:∀(m n:Int) (k:Int->RV) (v:AV) (σ:AS),dN m n .no k= .ok v σ->∃c,fL .Add m n=some c/\k c= .ok v σ:=λ m n k v σ h=>⟨_,rfl,h⟩
theorem jq:∀(m n:Int) (k:Int->RV) (v:AV) (σ:AS),eW m n .no k= .ok v σ->∃c,fL .Sub m n=some c/\k c= .ok v σ:=λ m n k v σ h=>⟨_,rfl,h⟩
theorem mX:∀(m n:Int) (k:Int->RV) (v:AV) (σ:AS),tK m n .no k= .ok v σ->∃c,fL .Mult m n=some c/\k c= .ok v σ:=λ m n k v σ h=>by
 refine eA (u6 h (by nofun)) λ hs h=>?_
 exact⟨m*n,by unfold fL;simp only[hs],h⟩
theorem sU {op:CmpOp}{a b:EF}{ea eb:PySem.Expr}{p:Pos}{f:TF}(hm:behindInMarks op eb=false)(ha:SE G N a ea)(hb:SE G N b eb)
  (hf:∀D σ c σ',f D σ= .ok c σ'->∃x y σ1,a D σ= .ok x σ1/\b D σ1= .ok y σ'/\∀(C:Cx) (ρ:List Addr) (s:Shared) (u v:Value),SR G C ρ σ' s.heap->VR G.KT ρ x u->VR G.KT ρ y v->jS G C ρ (compareOp op u v) s (.bool c) σ'):
  ST G N f (.Compare ea [op] [eb] p)/\SE G N (λ D σ=>(f D σ).b .no λ c σ'=>.ok (.bool c) σ') (.Compare ea [op] [eb] p):=by
 constructor
 ·intro C hC σ σ' c h ρ s S
  refine eX (hf _ _ _ _ h) λ x y σ1 h1 h2 h3=>?_
  intro E Q hQ
  refine wpAny_isTrue_Compare1 (ha C hC _ _ _ h1 ρ s S E _ λ ρ1 u t'1 k'1 p'1 S'1 r'1=>hb C hC _ _ _ h2 _ ⟨t'1,s.gens,s.drawn,k'1,s.os⟩ S'1 E _ λ ρ2 v t'2 k'2 p'2 S'2 r'2=>?_) hm
  refine h3 C ρ2 ⟨t'2,s.gens,s.drawn,k'2,s.os⟩ u v S'2 (r'1.mono p'2) r'2 E _ λ ρ3 w t'3 k'3 p'3 S3 r'3=>?_
  cases r'3
  exact wpAny_truthy_bool (hQ ρ3 c t'3 k'3 (p'1.trans (p'2.trans p'3)) S3 rfl)
 ·intro C hC σ σ' v h ρ s S
  refine ez (RB.inv h (by nofun)) λ c σ2 h0 h=>?_
  cases h
  refine eX (hf _ _ _ _ h0) λ x y σ1 h1 h2 h3=>?_
  intro E Q hQ
  refine wpAny_Compare1 (xx ha hb hC h1 h2 S λ ρ' u v h' tk' p' S' ru rv=>?_) hm
  exact h3 C ρ' ⟨h',s.gens,s.drawn,tk',s.os⟩ u v S' ru rv E Q λ ρ'' a h'' tk'' p'' S'' r''=>hQ ρ'' a h'' tk'' (p'.trans p'') S'' r''
end
theorem nzO {α:Type}{x:α}:none≠some x:=nofun
theorem nzV {v:AV}{σ:AS}:RV.no≠.ok v σ:=nofun
theorem nzB {v:Bool}{σ:AS}:RB.no≠.ok v σ:=nofun
theorem nzS {v:List AV}{σ:AS}:RS.no≠.ok v σ:=nofun
theorem nzU {σ:AS}:RU.no≠.ok σ:=nofun
theorem nzb:false≠true:=nofun
section elim
universe uE
variable{β:Type uE}{n z:β}{C:Prop}
theorem RV.elim {r:RV}{k:AV->AS->β}(h:r.b n k=z)(f:∀v σ,r= .ok v σ->k v σ=z->C)(hz:n≠z:=by first|exact nzV|exact nzO|exact nzU|exact nzB|exact nzS|exact nzb|nofun):C:=
 let⟨v,σ,a,b⟩:=RV.inv h hz;f v σ a b
theorem RB.elim {r:RB}{k:Bool->AS->β}(h:r.b n k=z)(f:∀v σ,r= .ok v σ->k v σ=z->C)(hz:autoParam (n≠z) RV.elim._auto_1):C:=
 let⟨v,σ,a,b⟩:=RB.inv h hz;f v σ a b
theorem RS.elim {r:RS}{k:List AV->AS->β}(h:r.b n k=z)(f:∀v σ,r= .ok v σ->k v σ=z->C)(hz:autoParam (n≠z) RV.elim._auto_1):C:=
 let⟨v,σ,a,b⟩:=RS.inv h hz;f v σ a b
theorem RU.elim {r:RU}{k:AS->β}(h:r.b n k=z)(f:∀σ,r= .ok σ->k σ=z->C)(hz:autoParam (n≠z) RV.elim._auto_1):C:=
 let⟨σ,a,b⟩:=RU.inv h hz;f σ a b
theorem Op.elim {α:Type uE}{r:Option α}{k:α->β}(h:Op.b r n k=z)(f:∀x,r=some x->k x=z->C)(hz:autoParam (n≠z) RV.elim._auto_1):C:=
 let⟨σ,a,b⟩:=Op.inv h hz;f σ a b
theorem ay {b:Bool}{t:β}(h:bb b t n=z)(f:b=true->t=z->C)(hz:autoParam (n≠z) RV.elim._auto_1):C:=
 let⟨x,y⟩:=u6 h hz;f x y
theorem AV.i_elim {v:AV}{k:Int->β}(h:v.i n k=z)(f:∀i,v= .int i->k i=z->C)(hz:autoParam (n≠z) RV.elim._auto_1):C:=
 let⟨σ,a,b⟩:=AV.i_inv h hz;f σ a b
theorem AV.s_elim {v:AV}{k:List Nat->β}(h:v.s n k=z)(f:∀i,v= .str i->k i=z->C)(hz:autoParam (n≠z) RV.elim._auto_1):C:=
 let⟨σ,a,b⟩:=AV.s_inv h hz;f σ a b
theorem AV.r_elim {v:AV}{k:Nat->β}(h:v.r n k=z)(f:∀i,v= .ref i->k i=z->C)(hz:autoParam (n≠z) RV.elim._auto_1):C:=
 let⟨σ,a,b⟩:=AV.r_inv h hz;f σ a b
theorem AO.c_elim {o:AO}{k:Option AV->β}(h:o.c n k=z)(f:∀i,o= .cell i->k i=z->C)(hz:autoParam (n≠z) RV.elim._auto_1):C:=
 let⟨σ,a,b⟩:=AO.c_inv h hz;f σ a b
end elim
noncomputable def AO.gI (o:AO):Option (Addr×Nat×List (Option AV)):=AO.casesOn (motive:=λ _=>_) o none (λ _=>none) (λ _=>none) (λ _ _ _=>none) (λ _=>none) (λ _ _ _=>none) (λ _ _=>none) (λ C j v=>some (C,j,v)) (λ _ _ _=>none) (λ _ _=>none) (λ _=>none) (λ _=>none)
noncomputable def AO.gA (o:AO):Option (Nat×List (Option AV)×Nat):=AO.casesOn (motive:=λ _=>_) o none (λ _=>none) (λ _=>none) (λ _ _ _=>none) (λ _=>none) (λ _ _ _=>none) (λ _ _=>none) (λ _ _ _=>none) (λ C j v=>some (C,j,v)) (λ _ _=>none) (λ _=>none) (λ _=>none)
noncomputable def AO.gD (o:AO):Option (Bool×List (AV×AV)×Nat):=AO.casesOn (motive:=λ _=>_) o none (λ _=>none) (λ _=>none) (λ _ _ _=>none) (λ _=>none) (λ C j v=>some (C,j,v)) (λ _ _=>none) (λ _ _ _=>none) (λ _ _ _=>none) (λ _ _=>none) (λ _=>none) (λ _=>none)
noncomputable def AO.gL (o:AO):Option (List AV):=AO.casesOn (motive:=λ _=>_) o none (λ v=>some v) (λ _=>none) (λ _ _ _=>none) (λ _=>none) (λ _ _ _=>none) (λ _ _=>none) (λ _ _ _=>none) (λ _ _ _=>none) (λ _ _=>none) (λ _=>none) (λ _=>none)
theorem AO.gI_ok {o:AO}{q}(h:o.gI=some q):o= .inst q.1 q.2.1 q.2.2:=by
 cases o with
 |inst a b c=>exact aj h▸rfl
 |_=>exact absurd h nzO
theorem AO.gA_ok {o:AO}{q}(h:o.gA=some q):o= .attrs q.1 q.2.1 q.2.2:=by
 cases o with
 |attrs a b c=>exact aj h▸rfl
 |_=>exact absurd h nzO
theorem AO.gD_ok {o:AO}{q}(h:o.gD=some q):o= .dict q.1 q.2.1 q.2.2:=by
 cases o with
 |dict a b c=>exact aj h▸rfl
 |_=>exact absurd h nzO
theorem AO.gL_ok {o:AO}{a}(h:o.gL=some a):o= .list a:=by
 cases o with
 |list a=>exact aj h▸rfl
 |_=>exact absurd h nzO
noncomputable def AO.gT (o:AO):Option (List AV):=AO.casesOn (motive:=λ _=>_) o none (λ _=>none) (λ v=>some v) (λ _ _ _=>none) (λ _=>none) (λ _ _ _=>none) (λ _ _=>none) (λ _ _ _=>none) (λ _ _ _=>none) (λ _ _=>none) (λ _=>none) (λ _=>none)
theorem AO.gT_ok {o:AO}{a}(h:o.gT=some a):o= .tup a:=by
 cases o with
 |tup a=>exact aj h▸rfl
 |_=>exact absurd h nzO
noncomputable def alP (l:List (Option AV)):Option (List AV):=List.rec (motive:=λ _=>Option (List AV)) (some []) (λ o _ ih=>Op.b o none λ v=>Op.b ih none λ l=>some (v::l)) l
theorem pU:∀{l:List (Option AV)} {r:List AV},alP l=some r->l=r.map some
 |[],_,h=>by cases h;rfl
 |o::l,r,h=>Op.elim (show Op.b o none (λ v=>Op.b (alP l) none λ l=>some (v::l))=some r from h) λ v e h=>Op.elim h λ l' e' h=>by cases h;rw[e,pU e'];rfl
section
variable{β:Type}{n z:β}{P:Prop}
noncomputable def lN (l:List (Option AV))(n k:β):β:=List.casesOn (motive:=λ _=>β) l k λ _ _=>n
noncomputable def lC (l:List AV)(n:β)(k:AV->List AV->β):β:=List.casesOn (motive:=λ _=>β) l n k
noncomputable def lE (l:List AV)(n k:β):β:=List.casesOn (motive:=λ _=>β) l k λ _ _=>n
theorem lN.elim {l:List (Option AV)}{k:β}(h:lN l n k=z)(hz:n≠z)(f:l=[]->k=z->P):P:=by
 cases l with
 |nil=>exact f rfl h
 |cons=>exact absurd h hz
theorem lE.elim {l:List AV}{k:β}(h:lE l n k=z)(hz:n≠z)(f:l=[]->k=z->P):P:=by
 cases l with
 |nil=>exact f rfl h
 |cons=>exact absurd h hz
theorem lC.elim {l:List AV}{k:AV->List AV->β}(h:lC l n k=z)(hz:n≠z)(f:∀x r,l=x::r->k x r=z->P):P:=by
 cases l with
 |cons x r=>exact f x r rfl h
 |nil=>exact absurd h hz
theorem Op.bs {α β:Type}{r:Option α}{n:β}{k:α->β}{a:α}{z:β}(h:r=some a)(e:k a=z):Op.b r n k=z:=by rw[h];exact e
theorem lF {b:Bool}{t:β}(h:b=true)(e:t=z):bb b t n=z:=by rw[h];exact e
end
noncomputable def AO.gS (o:AO):Option (Bool×List AV):=AO.casesOn (motive:=λ _=>_) o none (λ _=>none) (λ _=>none) (λ _ _ _=>none) (λ _=>none) (λ _ _ _=>none) (λ a b=>some (a,b)) (λ _ _ _=>none) (λ _ _ _=>none) (λ _ _=>none) (λ _=>none) (λ _=>none)
theorem AO.gS_ok {o:AO}{q}(h:o.gS=some q):o= .set q.1 q.2:=by
 cases o with
 |set a b=>exact aj h▸rfl
 |_=>exact absurd h nzO
noncomputable def AO.gN (o:AO):Option Nat:=AO.casesOn (motive:=λ _=>_) o none (λ _=>none) (λ _=>none) (λ _ _ _=>none) (λ _=>none) (λ _ _ _=>none) (λ _ _=>none) (λ _ _ _=>none) (λ _ _ _=>none) (λ _ _=>none) (λ a=>some a) (λ _=>none)
theorem AO.gN_ok {o:AO}{q}(h:o.gN=some q):o= .nxt q:=by
 cases o with
 |nxt a=>exact aj h▸rfl
 |_=>exact absurd h nzO
noncomputable def AO.gK (o:AO):Option (Nat×Nat):=AO.casesOn (motive:=λ _=>_) o none (λ _=>none) (λ _=>none) (λ _ _ _=>none) (λ _=>none) (λ _ _ _=>none) (λ _ _=>none) (λ _ _ _=>none) (λ _ _ _=>none) (λ a b=>some (a,b)) (λ _=>none) (λ _=>none)
theorem AO.gK_ok {o:AO}{q}(h:o.gK=some q):o= .lit q.1 q.2:=by
 cases o with
 |lit a b=>exact aj h▸rfl
 |_=>exact absurd h nzO
theorem d8 {st:List AO}{p:Nat}{o:AO}(e:cy st p=some o){o':AO}(h:o=o'):st[p]? =some o':=by rw[← aS,e,h]
section
variable{β:Type}{r:Nat}{st:List AO}{n z:β}{P:Prop}
theorem qt {o:AO}{k:AO->β}(h:st[r]? =some o):Op.b (cy st r) n k=k o:=by rw[aS,h];rfl
noncomputable def inA (r:Nat)(st:List AO)(n:β)(k:Addr->Nat->List (Option AV)->β):β:=Op.b (cy st r) n λ o=>Op.b o.gI n λ q=>k q.1 q.2.1 q.2.2
theorem ue {k:Addr->Nat->List (Option AV)->β}(h:inA r st n k=z)(hz:n≠z)(f:∀(a:Addr) (b:Nat) (c:List (Option AV)),st[r]? =some (.inst a b c)->k a b c=z->P):P:=Op.elim (hz:=hz) h λ o e h=>Op.elim (hz:=hz) h λ q g h=>f q.1 q.2.1 q.2.2 (d8 e (AO.gI_ok g)) h
theorem ud {k:Addr->Nat->List (Option AV)->β}{a:Addr}{b:Nat}{c:List (Option AV)}(h:st[r]? =some (.inst a b c)):inA r st n k=k a b c:=qt h
noncomputable def atA (r:Nat)(st:List AO)(n:β)(k:Nat->List (Option AV)->Nat->β):β:=Op.b (cy st r) n λ o=>Op.b o.gA n λ q=>k q.1 q.2.1 q.2.2
theorem u8 {k:Nat->List (Option AV)->Nat->β}(h:atA r st n k=z)(hz:n≠z)(f:∀(a:Nat) (b:List (Option AV)) (c:Nat),st[r]? =some (.attrs a b c)->k a b c=z->P):P:=Op.elim (hz:=hz) h λ o e h=>Op.elim (hz:=hz) h λ q g h=>f q.1 q.2.1 q.2.2 (d8 e (AO.gA_ok g)) h
theorem u7 {k:Nat->List (Option AV)->Nat->β}{a:Nat}{b:List (Option AV)}{c:Nat}(h:st[r]? =some (.attrs a b c)):atA r st n k=k a b c:=qt h
noncomputable def zO (r:Nat)(st:List AO)(n:β)(k:Bool->List (AV×AV)->Nat->β):β:=Op.b (cy st r) n λ o=>Op.b o.gD n λ q=>k q.1 q.2.1 q.2.2
theorem jb {k:Bool->List (AV×AV)->Nat->β}(h:zO r st n k=z)(hz:n≠z)(f:∀(a:Bool) (b:List (AV×AV)) (c:Nat),st[r]? =some (.dict a b c)->k a b c=z->P):P:=Op.elim (hz:=hz) h λ o e h=>Op.elim (hz:=hz) h λ q g h=>f q.1 q.2.1 q.2.2 (d8 e (AO.gD_ok g)) h
theorem ze {k:Bool->List (AV×AV)->Nat->β}{a:Bool}{b:List (AV×AV)}{c:Nat}(h:st[r]? =some (.dict a b c)):zO r st n k=k a b c:=qt h
noncomputable def xE (r:Nat)(st:List AO)(n:β)(k:List AV->β):β:=Op.b (cy st r) n λ o=>Op.b o.gL n λ q=>k q
theorem gY {k:List AV->β}(h:xE r st n k=z)(hz:n≠z)(f:∀(a:List AV),st[r]? =some (.list a)->k a=z->P):P:=Op.elim (hz:=hz) h λ o e h=>Op.elim (hz:=hz) h λ q g h=>f q (d8 e (AO.gL_ok g)) h
theorem t6 {k:List AV->β}{a:List AV}(h:st[r]? =some (.list a)):xE r st n k=k a:=qt h
noncomputable def seA (r:Nat)(st:List AO)(n:β)(k:Bool->List AV->β):β:=Op.b (cy st r) n λ o=>Op.b o.gS n λ q=>k q.1 q.2
theorem tc {k:Bool->List AV->β}(h:seA r st n k=z)(hz:n≠z)(f:∀(a:Bool) (b:List AV),st[r]? =some (.set a b)->k a b=z->P):P:=Op.elim (hz:=hz) h λ o e h=>Op.elim (hz:=hz) h λ q g h=>f q.1 q.2 (d8 e (AO.gS_ok g)) h
end
noncomputable def p2 (l:List AV):Option (AV×AV):=lC l none λ a l=>lC l none λ b l=>lE l none (some (a,b))
theorem xB {l:List AV}{z}(h:p2 l=some z):l=[z.1,z.2]:=lC.elim h nzO λ x _ z1 h=>lC.elim h nzO λ y _ z2 h=>lE.elim h nzO λ z4 h=>(aj h)▸z4▸z2▸z1
section
variable{G:Gd}{N:Nm}
noncomputable def rL (e:PySem.Expr):Prop:=∀(env:Env) (whole:Sem Value),isTrue e env whole=(do let v ← whole;standAt e.pos;holding [v] (truthy v))
theorem jj {a:EF}{e:PySem.Expr}(ha:SE G N a e)(he:rL e):ST G N (tE a) e:=by
 intro C hC σ σ' b h ρ s S
 refine RV.elim h λ x σ1 h1 h=>?_
 refine Op.elim h λ c h2 h=>?_
 cases h
 intro E Q hQ
 refine wpAny_isTrue_value (ha C hC _ _ _ h1 ρ s S E _ λ ρ1 u t'1 k'1 p'1 S'1 r'1=>?_) (he C.env _)
 exact oY (s:=⟨t'1,s.gens,s.drawn,k'1,s.os⟩) S'1 h2 r'1 E Q λ ρ2 a t'2 k'2 p'2 S'2 r'2=>hQ ρ2 a t'2 k'2 (p'1.trans p'2) S'2 r'2
theorem mt {t:TF}{e:PySem.Expr}{p:Pos}(ht:ST G N t e):ST G N (lx t) (.UnaryOp .Not e p):=by
 intro C hC σ σ' b h ρ s S
 refine RB.elim h λ x σ1 h1 h=>?_
 cases h
 intro E Q hQ
 refine wpAny_isTrue_Not (ht C hC _ _ _ h1 ρ s S E _ λ ρ1 u t'1 k'1 p'1 S'1 r'1=>hQ ρ1 _ t'1 k'1 p'1 S'1 ?_)
 rw[r'1]
noncomputable def c8:TF:=λ _ σ=>.ok true σ
noncomputable def gH:TF:=λ _ σ=>.ok false σ
theorem p_ {p:Pos}:ST G N c8 (.BoolOp .And [] p):=by
 intro C hC σ σ' b h ρ s S
 cases h
 exact λ E Q hQ=>isTrue_and_nil (hQ ρ _ s.heap s.toks (ah _) S rfl)
theorem mr {p:Pos}:ST G N gH (.BoolOp .Or [] p):=by
 intro C hC σ σ' b h ρ s S
 cases h
 exact λ E Q hQ=>isTrue_or_nil (hQ ρ _ s.heap s.toks (ah _) S rfl)
theorem jk {a b:TF}{e:PySem.Expr}{es:List PySem.Expr}{p:Pos}(ha:ST G N a e)(hb:ST G N b (.BoolOp .And es p)):ST G N (o3 a b) (.BoolOp .And (e::es) p):=by
 intro C hC σ σ' c h ρ s S
 refine RB.elim h λ x σ1 h1 h=>?_
 intro E Q hQ
 refine isTrue_and (ha C hC _ _ _ h1 ρ s S E _ λ ρ1 u t'1 k'1 p'1 S'1 r'1=>?_)
 cases(r'1)
 cases x with
 |false=>
  cases h
  exact hQ ρ1 _ t'1 k'1 p'1 S'1 rfl
 |true=>exact hb C hC _ _ _ h ρ1 ⟨t'1,s.gens,s.drawn,k'1,s.os⟩ S'1 E Q λ ρ2 a t'2 k'2 p'2 S'2 r'2=>hQ ρ2 a t'2 k'2 (p'1.trans p'2) S'2 r'2
theorem iT {a b:TF}{e:PySem.Expr}{es:List PySem.Expr}{p:Pos}(ha:ST G N a e)(hb:ST G N b (.BoolOp .Or es p)):ST G N (p7 a b) (.BoolOp .Or (e::es) p):=by
 intro C hC σ σ' c h ρ s S
 refine RB.elim h λ x σ1 h1 h=>?_
 intro E Q hQ
 refine isTrue_or (ha C hC _ _ _ h1 ρ s S E _ λ ρ1 u t'1 k'1 p'1 S'1 r'1=>?_)
 cases(r'1)
 cases x with
 |true=>
  cases h
  exact hQ ρ1 _ t'1 k'1 p'1 S'1 rfl
 |false=>exact hb C hC _ _ _ h ρ1 ⟨t'1,s.gens,s.drawn,k'1,s.os⟩ S'1 E Q λ ρ2 a t'2 k'2 p'2 S'2 r'2=>hQ ρ2 a t'2 k'2 (p'1.trans p'2) S'2 r'2
theorem nS {a b:EF}{e f:PySem.Expr}{p:Pos}(ha:SE G N a e)(hb:SE G N b f):SE G N (wI a b) (.BoolOp .Or [e,f] p):=by
 intro C hC σ σ' v h ρ s S
 refine RV.elim h λ x σ1 h1 h=>?_
 refine Op.elim h λ c h2 h=>?_
 intro E Q hQ
 refine wpAny_Or2 (ha C hC _ _ _ h1 ρ s S E _ λ ρ1 u t'1 k'1 p'1 S'1 r'1=>?_)
 refine oY (s:=⟨t'1,s.gens,s.drawn,k'1,s.os⟩) S'1 h2 r'1 E _ λ ρ2 a t'2 k'2 p'2 S'2 r'2=>?_
 cases(r'2)
 cases c with
 |true=>
  cases h
  exact hQ ρ2 _ t'2 k'2 (p'1.trans p'2) S'2 (r'1.mono p'2)
 |false=>exact hb C hC _ _ _ h ρ2 ⟨t'2,s.gens,s.drawn,k'2,s.os⟩ S'2 E Q λ ρ3 a t'3 k'3 p'3 S3 r'3=>hQ ρ3 a t'3 k'3 (p'1.trans (p'2.trans p'3)) S3 r'3
theorem cq {a b:EF}{e f:PySem.Expr}{p:Pos}(ha:SE G N a e)(hb:SE G N b f):SE G N (bN a b) (.Subscript e f p):=by
 intro C hC σ σ' v h ρ s S
 refine RV.elim h λ x σ1 h1 h=>?_
 refine RV.elim h λ y σ2 h2 h=>?_
 refine AV.i_elim h λ n hn h'1=>?_
 subst hn
 refine Op.elim h'1 λ w h3 h'2=>?_
 cases h'2
 intro E Q hQ
 refine iR (ha C hC _ _ _ h1 ρ s S E _ λ ρ1 u t'1 k'1 p'1 S'1 r'1=>hb C hC _ _ _ h2 _ ⟨t'1,s.gens,s.drawn,k'1,s.os⟩ S'1 E _ λ ρ2 v t'2 k'2 p'2 S'2 r'2=>?_)
 exact yI (s:=⟨t'2,s.gens,s.drawn,k'2,s.os⟩) S'2 h3 (r'1.mono p'2) r'2 E Q λ ρ3 a t'3 k'3 p'3 S3 r'3=>hQ ρ3 a t'3 k'3 (p'1.trans (p'2.trans p'3)) S3 r'3
noncomputable def SP (G:Gd)(N:Nm)(f:EF)(e:Option PySem.Expr):Prop:=∀(C:Cx),C.is N->∀(σ σ':AS) (v:AV),f C.dn σ= .ok v σ'->∀(ρ:List Addr) (s:Shared),SR G C ρ σ s.heap->jS G C ρ (evalPart e C.env) s v σ'
theorem dl:SP G N (cC .none) none:=by
 intro C hC σ σ' v h ρ s S
 cases h
 exact λ E Q hQ=>wpAny_evalPart_none (hQ ρ _ s.heap s.toks (ah _) S rfl)
theorem cL {a:EF}{e:PySem.Expr}(ha:SE G N a e):SP G N a (some e):=by
 intro C hC σ σ' v h ρ s S E Q hQ
 exact wpAny_evalPart_some (ha C hC _ _ _ h ρ s S E Q hQ)
theorem eu {a l u:EF}{e:PySem.Expr}{lo up:Option PySem.Expr}{q p:Pos}(ha:SE G N a e)(hl:SP G N l lo)(hu:SP G N u up):SE G N (f6 a l u) (.Subscript e (.Slice lo up none q) p):=by
 intro C hC σ σ' v h ρ s S
 refine RV.elim h λ x σ1 h1 h=>?_
 refine RV.elim h λ y σ2 h2 h=>?_
 refine RV.elim h λ z σ3 h3 h=>?_
 refine Op.elim h λ w h4 h'2=>?_
 cases h'2
 intro E Q hQ
 refine iR (ha C hC _ _ _ h1 ρ s S E _ λ ρ1 u t'1 k'1 p'1 S'1 r'1=>wpAny_Slice ?_)
 refine hl C hC _ _ _ h2 _ ⟨t'1,s.gens,s.drawn,k'1,s.os⟩ S'1 E _ λ ρ2 v t'2 k'2 p'2 S'2 r'2=>?_
 refine hu C hC _ _ _ h3 _ ⟨t'2,s.gens,s.drawn,k'2,s.os⟩ S'2 E _ λ ρ3 w t'3 k'3 p'3 S3 r'3=>wpAny_evalPart_none ?_
 refine bz (ye (s:=⟨t'3,s.gens,s.drawn,k'3,s.os⟩) S3 h4 ((r'1.mono p'2).mono p'3) (r'2.mono p'3) r'3 E Q λ ρ4 a t4 k'4 p'4 S4 r4=>hQ ρ4 a t4 k'4 (p'1.trans (p'2.trans (p'3.trans p'4))) S4 r4) λ T id _ hT hl' hw=>?_
 exact⟨T,id,hT,hl',hw⟩
noncomputable def fA (e:PySem.Expr):Prop:=∀(env:Env) (rest:List PySem.Expr),starEach (e::rest) env=(false,eval e env)::starEach rest env
theorem aJ:SL G N aI []:=by
 intro C hC σ σ' vs h ρ s pos S
 cases h
 exact λ E Q hQ=>spliced_nil (hQ ρ _ s.heap s.toks (ah _) S .nil)
theorem aw {a:EF}{r:LF}{e:PySem.Expr}{es:List PySem.Expr}(he:fA e)(ha:SE G N a e)(hr:SL G N r es):SL G N (aq a r) (e::es):=by
 intro C hC σ σ' vs h ρ s pos S
 refine RV.elim h λ x σ1 h1 h=>?_
 refine RS.elim h λ xs σ2 h2 h=>?_
 cases h
 intro E Q hQ
 rw[he]
 refine spliced_cons (ha C hC _ _ _ h1 ρ s S E _ λ ρ1 u t'1 k'1 p'1 S'1 r'1=>?_)
 exact hr C hC _ _ _ h2 _ ⟨t'1,s.gens,s.drawn,k'1,s.os⟩ pos S'1 E _ λ ρ2 v t'2 k'2 p'2 S'2 r'2=>hQ ρ2 _ t'2 k'2 (p'1.trans p'2) S'2 (.cons (r'1.mono p'2) r'2)
noncomputable def dj (l:LF):EF:=λ D σ=>(l D σ).b .no λ vs σ1=>bb (Nat.ble vs.length big) (.ok (.ref σ1.st.length) ⟨σ1.st++[.list vs],σ1.fr⟩) .no
theorem cw {l:LF}{es:List PySem.Expr}{p:Pos}(hl:SL G N l es):SE G N (dj l) (.List es p):=by
 intro C hC σ σ' v h ρ s S
 refine RS.elim h λ vs σ1 h1 h=>?_
 refine ay h λ h2 h=>?_
 cases h
 intro E Q hQ
 rw[arm_eval_List]
 refine wpAny_bind (wpAny_standAt (wpAny_bind (hl C hC _ _ _ h1 ρ s p S E _ λ ρ1 u t'1 k'1 p'1 S'1 r'1=>?_)))
 exact tQ (s:=⟨t'1,s.gens,s.drawn,k'1,s.os⟩) S'1 r'1 h2 λ ρ2 a t'2 k'2 p'2 S'2 r'2=>hQ ρ2 a t'2 k'2 (p'1.trans p'2) S'2 r'2
end
noncomputable abbrev CF:=Dn->List AV->AS->RV
noncomputable def aP (f:CF)(l:LF):EF:=λ D σ=>(l D σ).b .no λ vs σ1=>f D vs σ1
noncomputable def jv (f:CF):EF:=λ D σ=>f D [] σ
noncomputable def SC (G:Gd)(f:CF)(y:Value):Prop:=∀(C:Cx) (σ σ':AS) (vs:List AV) (v:AV),f C.dn vs σ= .ok v σ'->∀(ρ:List Addr) (s:Shared) (xs:List Value),VRs G.KT ρ vs xs->SR G C ρ σ s.heap->jS G C ρ (call y xs) s v σ'
noncomputable def CW (G:Gd)(y:Value):Prop:=∀(A:Around) (E:Value->Shared->Prop) (Q:Value->Shared->Prop) (s:Shared) (pos:Pos) (args:List (Bool×Sem Value)),args.any (·.1)=false->
 wpAny (model G.prog G.w) A (evalArgs y true args []) (λ a s'1=>G.K.In s'1.heap/\wpAny (model G.prog G.w) A (call y a.pos a.kw) Q E s'1) E s->wpAny (model G.prog G.w) A (callWith pos y [] args []) Q E s
theorem bm {G:Gd}{id:String}:CW G (.builtin id):=λ A E Q s pos args hp h=>
 callWith_builtin hp (wpAny_mono h (λ a s'1 h'1=>h'1.2) λ _ _ x=>x)
theorem cN {G:Gd}{T:String}:CW G (.type T):=λ A E Q s pos args hp h=>
 PyProof.Rows.callWith_type hp (wpAny_mono h (λ a s'1 h'1=>h'1.2) λ _ _ x=>x)
theorem jP {G:Gd}{y:Value}(hk:keepIn G.K y=true):CW G y:=λ A E Q s pos args hp h=>
 callWith_of (by rw[hp];rfl) (keeps_K hk) h
section
variable{G:Gd}{N:Nm}
noncomputable def kx (es:List PySem.Expr):Prop:=∀(env:Env) (pos:Pos),(backTo pos (starEach es env)).any (·.1)=false
noncomputable def xS (G:Gd)(N:Nm)(x:Str)(y:Value):Prop:=∀(C:Cx),C.is N->∀(ρ:List Addr) (s:Shared) (σ:AS) (p:Pos) (E Q:Value->Shared->Prop),SR G C ρ σ s.heap->Q y s->wpAny (model G.prog G.w) C.A (eval (.Name x p) C.env) Q E s
theorem be {x:Str}{y:Value}(hx:x∈N.gs)(hy:nsIn G.K mainGlobals x=some none)(hb:bootBuiltins x=some y)(hn:x≠"__name__"):xS G N x y:=
 λ C hC ρ s σ p E Q S h=>zj S (by rw[hC.2.1];exact hx) hy hb hn h
theorem c9 {x:Str}{y:Value}(hx:x∈N.gs)(hy:nsIn G.K mainGlobals x=some (some y)):xS G N x y:=
 λ C hC ρ s σ p E Q S h=>qF S (by rw[hC.2.1];exact hx) hy h
theorem SR.kin {C:Cx}{ρ:List Addr}{σ:AS}{h:Heap}(S:SR G C ρ σ h):G.K.In h:=S.ok.kin h S.rep.kept
theorem aX {f:CF}{l:LF}{x:Str}{y:Value}{e:PySem.Expr}{es:List PySem.Expr}{p pos:Pos}(hf:SC G f y)(hx:xS G N x y)(hw:CW G y)(hl:SL G N l (e::es))(he:fA e)(hp:kx (e::es)):
  SE G N (aP f l) (.Call (.Name x p) (e::es) [] pos):=by
 intro C hC σ σ' v h ρ s S
 refine RS.elim h λ vs σ1 h1 h=>?_
 intro E Q hQ
 refine wpAny_Call_NameR (hx C hC ρ s σ p E _ S (hw _ _ _ _ _ _ (hp C.env pos) ?_))
 have hl':=hl C hC _ _ _ h1 ρ s pos S E
 rw[he]at hl' ⊢
 refine evalArgs_plain (hl' _ λ ρ1 u t'1 k'1 p'1 S'1 r'1=>⟨S'1.kin,?_⟩)
 exact hf C _ _ _ _ h ρ1 ⟨t'1,s.gens,s.drawn,k'1,s.os⟩ _ r'1 S'1 E Q λ ρ2 a t'2 k'2 p'2 S'2 r'2=>hQ ρ2 a t'2 k'2 (p'1.trans p'2) S'2 r'2
theorem nT {f:CF}{x:Str}{y:Value}{p pos:Pos}(hf:SC G f y)(hx:xS G N x y)(hw:CW G y):SE G N (jv f) (.Call (.Name x p) [] [] pos):=by
 intro C hC σ σ' v h ρ s S E Q hQ
 refine wpAny_Call_NameR (hx C hC ρ s σ p E _ S (hw _ _ _ _ _ [] rfl ?_))
 exact evalArgs_nil3 ⟨S.kin,hf C _ _ _ _ h ρ s _ .nil S E Q hQ⟩
noncomputable def dJ:CF:=λ D vs σ=>match vs with
 |[x]=>Op.b (vW x σ.st) .no λ n=>fI n λ c=>.ok (.int c) σ
 |_=>.no
theorem di:SC G dJ (.builtin "len"):=by
 intro C σ σ' vs v h ρ s xs r S
 cases r with
 |nil=>cases h
 |cons a r=>
 cases r with
 |cons _ _=>cases h
 |nil=>
 refine Op.elim h λ n h1 h=>?_
 rw[ek]at h
 cases h
 exact yB S h1 a
noncomputable def zo:CF:=λ D vs σ=>match vs with
 |[x,y]=>bb D.hn (x.i .no λ m=>y.i .no λ n=>.ok (bb (decide (n<m)) (.int n) (.int m)) σ) .no
 |_=>.no
theorem tj:SC G zo (.builtin "min"):=by
 intro C σ σ' vs v h ρ s xs r S
 cases r with
 |nil=>cases h
 |cons a r=>
 cases r with
 |nil=>cases h
 |cons b r=>
 cases r with
 |cons _ _=>cases h
 |nil=>
 refine ay h λ hn h=>?_
 refine AV.i_elim h λ m hm h=>?_
 refine AV.i_elim h λ n hn' h=>?_
 rw[hm]at a
 rw[hn']at b
 cases h
 have:=yv S (S.ok.hh hn) a b
 have e:(.int (if n<m then n else m):AV)=bb (decide (n<m)) (.int n) (.int m):=by
  rw[oG];by_cases q:n<m<;>simp[q]
 rw[e]at this
 exact this
noncomputable def bH:CF:=λ D vs σ=>Op.b (pf vs) .no λ o=>.ok (.ref σ.st.length) ⟨σ.st++[o],σ.fr⟩
theorem dz:SC G bH (.type "range"):=by
 intro C σ σ' vs v h ρ s xs r S
 refine Op.elim h λ o h1 h=>?_
 cases h
 exact tC S h1 r
noncomputable def xQ:CF:=λ D vs σ=>match vs with
 |[x]=>bb D.hn (Op.b (xD x σ.st) .no λ vs=>.ok (.ref σ.st.length) ⟨σ.st++[.list vs],σ.fr⟩) .no
 |_=>.no
theorem vH:SC G xQ (.type "list"):=by
 intro C σ σ' vs v h ρ s xs r S
 cases r with
 |nil=>cases h
 |cons a r=>
 cases r with
 |cons _ _=>cases h
 |nil=>
 refine ay h λ hn h=>?_
 refine Op.elim h λ ws h1 h=>?_
 cases h
 exact vU S (S.ok.hh hn) h1 a
noncomputable def RF.st (r:RF):AS:=match r with
 |.no=>⟨[],[]⟩
 |.nx σ|.br σ|.ct σ|.rt _ σ=>σ
noncomputable def Rf (KT:b4)(ρ:List Addr)(r:RF)(a:Flow):Prop:=match r with
 |.no=>False
 |.nx _=>a= .next
 |.br _=>a= .brk
 |.ct _=>a= .cont
 |.rt v _=>∃x,a= .ret x/\VR KT ρ v x
noncomputable abbrev RuF (G:Gd)(C:Cx)(ρ:List Addr)(t:Sem Flow)(s:Shared)(r:RF):Prop:=Ru G C (Rf G.KT) ρ t s r r.st
noncomputable def SS (G:Gd)(N:Nm)(f:SF)(e:Stmt):Prop:=∀(C:Cx),C.is N->∀(σ:AS),f C.dn σ≠.no->∀(ρ:List Addr) (s:Shared),SR G C ρ σ s.heap->RuF G C ρ (exec e C.env) s (f C.dn σ)
noncomputable def fw (G:Gd)(N:Nm)(f:SF)(e:List Stmt):Prop:=∀(C:Cx),C.is N->∀(σ:AS),f C.dn σ≠.no->∀(ρ:List Addr) (s:Shared),SR G C ρ σ s.heap->RuF G C ρ (execs e C.env) s (f C.dn σ)
theorem ax:fw G N aC []:=λ C hC σ h ρ s S E Q hQ=>wpAny_execs_nil (hQ ρ _ s.heap s.toks (ah _) S rfl)
theorem am {a r:SF}{e:Stmt}{es:List Stmt}(ha:SS G N a e)(hr:fw G N r es):fw G N (ao a r) (e::es):=by
 intro C hC σ h ρ s S E Q hQ
 unfold ao at h hQ
 have ha':=ha C hC σ
 generalize a C.dn σ=q at*
 refine wpAny_execs_cons ?_
 cases q with
 |no=>exact absurd rfl h
 |nx σ1=>
  refine ha' nofun ρ s S E _ λ ρ1 u t'1 k'1 p'1 S'1 r'1=>?_
  cases r'1
  exact hr C hC σ1 h ρ1 ⟨t'1,s.gens,s.drawn,k'1,s.os⟩ S'1 E Q λ ρ2 a t'2 k'2 p'2 S'2 r'2=>hQ ρ2 a t'2 k'2 (p'1.trans p'2) S'2 r'2
 |br σ1=>
  refine ha' nofun ρ s S E _ λ ρ1 u t'1 k'1 p'1 S'1 r'1=>?_
  cases r'1
  exact hQ ρ1 _ t'1 k'1 p'1 S'1 rfl
 |ct σ1=>
  refine ha' nofun ρ s S E _ λ ρ1 u t'1 k'1 p'1 S'1 r'1=>?_
  cases r'1
  exact hQ ρ1 _ t'1 k'1 p'1 S'1 rfl
 |rt v σ1=>
  refine ha' nofun ρ s S E _ λ ρ1 u t'1 k'1 p'1 S'1 r'1=>?_
  obtain⟨x,rfl,r'1⟩:=r'1
  exact hQ ρ1 _ t'1 k'1 p'1 S'1 ⟨x,rfl,r'1⟩
theorem o4 {p:Pos}:SS G N vL (.Break p):=λ C hC σ h ρ s S E Q hQ=>wpAny_Break (hQ ρ _ s.heap s.toks (ah _) S rfl)
theorem yb {p:Pos}:SS G N sCnt (.Continue p):=λ C hC σ h ρ s S E Q hQ=>wpAny_Continue (hQ ρ _ s.heap s.toks (ah _) S rfl)
theorem d6 {e:Stmt}:SS G N dS e:=λ C hC σ h=>absurd rfl h
theorem b_ {a:EF}{e:PySem.Expr}{p:Pos}(ha:SE G N a e):SS G N (cE a) (.Return (some e) p):=by
 intro C hC σ h ρ s S E Q hQ
 unfold cE at h hQ
 have ha':=ha C hC σ
 generalize a C.dn σ=q at*
 cases q with
 |no=>exact absurd rfl h
 |ok v σ1=>exact wpAny_Return_some (ha' _ _ rfl ρ s S E _ λ ρ1 u t'1 k'1 p'1 S'1 r'1=>hQ ρ1 _ t'1 k'1 p'1 S'1 ⟨u,rfl,r'1⟩)
theorem b6 {t:TF}{a b:SF}{e:PySem.Expr}{x y:List Stmt}{p:Pos}(ht:ST G N t e)(ha:fw G N a x)(hb:fw G N b y):SS G N (dL t a b) (.If e x y p):=by
 intro C hC σ h ρ s S E Q hQ
 unfold dL at h hQ
 have ht':=ht C hC σ
 generalize t C.dn σ=q at*
 cases q with
 |no=>exact absurd rfl h
 |ok c σ1=>
  refine wpAny_If (ht' _ _ rfl ρ s S E _ λ ρ1 u t'1 k'1 p'1 S'1 r'1=>?_)
  cases(r'1)
  cases c with
  |true=>exact ha C hC _ h ρ1 ⟨t'1,s.gens,s.drawn,k'1,s.os⟩ S'1 E Q λ ρ2 a t'2 k'2 p'2 S'2 r'2=>hQ ρ2 a t'2 k'2 (p'1.trans p'2) S'2 r'2
  |false=>exact hb C hC _ h ρ1 ⟨t'1,s.gens,s.drawn,k'1,s.os⟩ S'1 E Q λ ρ2 a t'2 k'2 p'2 S'2 r'2=>hQ ρ2 a t'2 k'2 (p'1.trans p'2) S'2 r'2
end
section
variable{G:Gd}{N:Nm}
theorem rH {i:Nat}{D:Dn}{σ σ':AS}{v:AV}(h:gV i D v σ= .ok σ'):ke D.cs σ i v=σ'/\∀k,D.cs[i]? =some (some k)->∃v'0,σ.st[k]? =some (.cell v'0):=by
 unfold gV at h
 rw[aS]at h
 unfold ke
 have loc:vB i v σ= .ok σ'->(⟨σ.st,σ.fr.set i (some v)⟩:AS)=σ':=by
  intro h
  unfold vB at h
  rw[bw]at h
  cases h
  rfl
 cases e:D.cs[i]? with
 |none=>
  rw[e]at h
  exact⟨loc h,λ k q=>by cases q⟩
 |some o=>
  rw[e]at h
  cases o with
  |none=>exact⟨loc h,λ k q=>by cases q⟩
  |some k=>
   refine Op.elim (show nR k v σ=_ from h) λ o h1 h=>?_
   refine AO.c_elim h λ w h2 h=>?_
   rw[aS]at h1
   rw[bw]at h
   cases h
   exact⟨rfl,λ k' q=>by cases q;exact⟨w,by rw[h1,h2]⟩⟩
theorem fy {C:Cx}{i:Nat}{x:Str}{σ σ':AS}{v:AV}(hx:C.nms[i]? =some x)(h:gV i C.dn v σ= .ok σ'){ρ:List Addr}{s:Shared}{y:Value}(r:VR G.KT ρ v y)(S:SR G C ρ σ s.heap):
  va G C ρ (storeName C.env x y) s σ':=by
 refine eA (rH h) λ h1 h2=>?_
 have:=rh S hx r h2
 rw[show ke C.cs σ i v=σ' from h1]at this
 exact this
theorem aW {i:Nat}{x:Str}{p:Pos}(hx:N.vn[i]? =some x):SG G N (gV i) (.Name x p):=by
 intro C hC σ σ' v h ρ s y r S E Q hQ
 exact wpAny_assign_Name (fy (by rw[hC.1];exact hx) h r S E Q hQ)
theorem lf {o i:PySem.Expr}{pos:Pos}{env:Env}{M:Model}{A:Around}{E:Value->Shared->Prop}{s:Shared}{v:Value}{Q:Unit->Shared->Prop}
  (h:wpAny M A (eval o env) (λ ov s'1=>wpAny M A (eval i env) (λ iv s'2=>wpAny M A (setItem ov iv v) Q E s'2) E s'1) E s):wpAny M A (assign (.Subscript o i pos) env v) Q E s:=by
 rw[arm_assign_Subscript]
 refine wpAny_bind (wpAny_holding (wpAny_mono h (λ ov s'1 h'1=>?_) λ _ _ x=>x))
 refine wpAny_bind (wpAny_holding (wpAny_mono h'1 (λ iv s'2 h'2=>?_) λ _ _ x=>x))
 exact wpAny_bind (wpAny_standAt (wpAny_bind (wpAny_holding (wpAny_mono h'2 (λ _ s'3 h'3=>wpAny_release h'3) λ _ _ x=>x))))
theorem yf {a b:EF}{e f:PySem.Expr}{p:Pos}(ha:SE G N a e)(hb:SE G N b f):SG G N (gSub a b) (.Subscript e f p):=by
 intro C hC σ σ' v h ρ s z r S E Q hQ
 refine RV.elim h λ x σ1 h1 h=>?_
 refine RV.elim h λ y σ2 h2 h=>?_
 refine AV.i_elim h λ n hn h'1=>?_
 subst hn
 refine Op.elim h'1 λ w h3 h'2=>?_
 cases h'2
 refine lf (ha C hC _ _ _ h1 ρ s S E _ λ ρ1 u t'1 k'1 p'1 S'1 r'1=>hb C hC _ _ _ h2 _ ⟨t'1,s.gens,s.drawn,k'1,s.os⟩ S'1 E _ λ ρ2 v t'2 k'2 p'2 S'2 r'2=>?_)
 exact rI (s:=⟨t'2,s.gens,s.drawn,k'2,s.os⟩) S'2 h3 (r'1.mono p'2) r'2 (r.mono (p'1.trans p'2)) E Q λ ρ3 a t'3 k'3 p'3 S3 r'3=>hQ ρ3 a t'3 k'3 (p'1.trans (p'2.trans p'3)) S3 r'3
noncomputable def SGs (G:Gd)(N:Nm)(f:GF)(es:List PySem.Expr):Prop:=∀(C:Cx),C.is N->∀(σ σ':AS) (v:AV),f C.dn v σ= .ok σ'->∀(ρ:List Addr) (s:Shared) (x:Value),VR G.KT ρ v x->SR G C ρ σ s.heap->va G C ρ (assignAll x ((assignEach es C.env).map (·.2))) s σ'
noncomputable def kr (e:PySem.Expr):Prop:=∀(env:Env) (rest:List PySem.Expr),assignEach (e::rest) env=(false,assign e env)::assignEach rest env
theorem aV {a:GF}{e:PySem.Expr}(he:kr e)(ha:SG G N a e):SGs G N a [e]:=by
 intro C hC σ σ' v h ρ s x r S E Q hQ
 rw[he]
 exact ha C hC _ _ _ h ρ s x r S E Q hQ
theorem qf {a b:GF}{e f:PySem.Expr}(he:kr e)(hf:kr f)(ha:SG G N a e)(hb:SG G N b f):SGs G N (g2 a b) [e,f]:=by
 intro C hC σ σ' v h ρ s x r S E Q hQ
 refine RU.elim h λ σ1 h1 h=>?_
 rw[he,hf]
 show wpAny _ _ (do holding [x] (assign e C.env x);assignAll x [assign f C.env]) Q E s
 refine wpAny_bind (wpAny_holding (ha C hC _ _ _ h1 ρ s x r S E _ λ ρ1 u t'1 k'1 p'1 S'1 r'1=>?_))
 exact hb C hC _ _ _ h ρ1 ⟨t'1,s.gens,s.drawn,k'1,s.os⟩ x (r.mono p'1) S'1 E Q λ ρ2 a t'2 k'2 p'2 S'2 r'2=>hQ ρ2 a t'2 k'2 (p'1.trans p'2) S'2 r'2
noncomputable def tP (ts:List PySem.Expr)(e:PySem.Expr):Prop:=∀(env:Env) (n:Nat),swapsWithSole ts e n env=pure false/\swappedStores ts e env=pure none
theorem a_ {t:GF}{a:EF}{ts:List PySem.Expr}{e:PySem.Expr}{p:Pos}(ht:SGs G N t ts)(ha:SE G N a e)(hs:tP ts e):SS G N (bv t a) (.Assign ts e p):=by
 intro C hC σ h ρ s S E Q hQ
 unfold bv at h hQ
 have ha':=ha C hC σ
 generalize a C.dn σ=q at*
 cases q with
 |no=>exact absurd rfl h
 |ok v σ1=>
  have ht':=ht C hC σ1
  have h':((t C.dn v σ1).b .no λ σ2=>(.nx σ2:RF))≠.no:=h
  have hQ':∀ρ' a h' tk',ρ<+:ρ'->SR G C ρ' (((t C.dn v σ1).b .no λ σ2=>(.nx σ2:RF))).st h'->Rf G.KT ρ' ((t C.dn v σ1).b .no λ σ2=>(.nx σ2:RF)) a->Q a {s with heap:=h',toks:=tk'}:=hQ
  clear h hQ
  refine wpAny_Assign_stores (ha' _ _ rfl ρ s S E _ λ ρ1 u t'1 k'1 p'1 S'1 r'1=>?_) (hs C.env _).1 (hs C.env 0).2
  have ht'':=λ σ2 e=>ht' σ2 v e ρ1 ⟨t'1,s.gens,s.drawn,k'1,s.os⟩ u r'1 S'1 E
  generalize t C.dn v σ1=q at*
  cases q with
  |no=>exact absurd rfl h'
  |ok σ2=>exact ht'' _ rfl _ λ ρ2 a t'2 k'2 p'2 S'2 r'2=>hQ' ρ2 _ t'2 k'2 (p'1.trans p'2) S'2 rfl
theorem sV {i:Nat}{x:Str}{f:Int->Int->RV->(Int->RV)->RV}{op:Operator}{a:EF}{e:PySem.Expr}{q p:Pos}(hx:N.vn[i]? =some x)
  (hf:∀m n k v σ,f m n .no k= .ok v σ->∃c,(∀(M:Program) (w:World) (A:Around) (E:Value->Shared->Prop) (Q:Value->Shared->Prop) (s:Shared) (t u:Nat),(∀tk tk',Q (.int c tk) {s with toks:=tk'})->wpAny (model M w) A (inplaceOp op (.int m t) (.int n u)) Q E s)/\k c= .ok v σ)
  (ha:SE G N a e):SS G N (vM i f a) (.AugAssign (.Name x q) op e p):=by
 intro C hC σ h ρ s S E Q hQ
 unfold vM at h hQ
 rcases e1:eS f (cV i) a C.dn σ with _|⟨v,σ1⟩
 ·rw[e1]at h;exact absurd rfl h
 ·rw[e1]at h hQ
  rcases e2:gV i C.dn v σ1 with _|σ2
  ·exact absurd (show((gV i C.dn v σ1).b .no λ σ3=>(.nx σ3:RF))= .no by rw[e2];rfl) h
  ·have hQ':∀ρ' a h' tk',ρ<+:ρ'->SR G C ρ' ((gV i C.dn v σ1).b .no λ σ3=>(.nx σ3:RF)).st h'->Rf G.KT ρ' ((gV i C.dn v σ1).b .no λ σ3=>(.nx σ3:RF)) a->Q a {s with heap:=h',toks:=tk'}:=hQ
   rw[e2]at hQ'
   clear h hQ
   refine RV.elim e1 λ x'1 σ3 h1 e1=>?_
   refine RV.elim e1 λ y σ4 h2 e1=>?_
   refine AV.i_elim e1 λ m hm e1=>?_
   refine AV.i_elim e1 λ n hn e1=>?_
   subst hm hn
   refine aQ (hf _ _ _ _ _ e1) λ c hc e1=>?_
   rw[ek]at e1
   cases e1
   refine eA (xO h1) λ h3 h4=>?_
   subst h4
   have hx':C.nms[i]? =some x:=by rw[hC.1];exact hx
   refine wpAny_AugAssign_Name (nK S hx' h3 E _ λ ρ1 u t'1 k'1 p'1 S'1 r'1=>?_)
   refine ha C hC _ _ _ h2 _ ⟨t'1,s.gens,s.drawn,k'1,s.os⟩ S'1 E _ λ ρ2 v t'2 k'2 p'2 S'2 r'2=>?_
   refine eE (r'1.mono p'2) λ tu z1_=>?_;subst z1_
   refine eE r'2 λ tv z1_=>?_;clear r'2;subst z1_
   refine hc _ _ _ _ _ _ _ _ λ tk tk'=>?_
   exact fy (s:=⟨t'2,s.gens,s.drawn,tk',s.os⟩) hx' e2 (r:=⟨tk,rfl⟩) S'2 E _ λ ρ3 a t'3 k'3 p'3 S3 r'3=>hQ' ρ3 _ t'3 k'3 (p'1.trans (p'2.trans p'3)) S3 rfl
theorem mW:∀(m n:Int) (k:Int->RV) (v:AV) (σ:AS),dN m n .no k= .ok v σ->∃c,(∀(M:Program) (w:World) (A:Around) (E:Value->Shared->Prop) (Q:Value->Shared->Prop) (s:Shared) (t u:Nat),(∀tk tk',Q (.int c tk) {s with toks:=tk'})->wpAny (model M w) A (inplaceOp .Add (.int m t) (.int n u)) Q E s)/\k c= .ok v σ:=
 λ m n k v σ h=>⟨m+n,λ M w A E Q s t u hQ=>AutoIntOps.iadd_0 (hQ _ _),h⟩
theorem uf:∀(m n:Int) (k:Int->RV) (v:AV) (σ:AS),eW m n .no k= .ok v σ->∃c,(∀(M:Program) (w:World) (A:Around) (E:Value->Shared->Prop) (Q:Value->Shared->Prop) (s:Shared) (t u:Nat),(∀tk tk',Q (.int c tk) {s with toks:=tk'})->wpAny (model M w) A (inplaceOp .Sub (.int m t) (.int n u)) Q E s)/\k c= .ok v σ:=
 λ m n k v σ h=>⟨m - n,λ M w A E Q s t u hQ=>AutoIntOps.isub_0 (hQ _ _),h⟩
end
section
variable{G:Gd}{N:Nm}
theorem mv {n:Nat}{t:TF}{b o:SF}{e:PySem.Expr}{body orelse:List Stmt}{p:Pos}(ht:ST G N t e)(hb:fw G N b body)(ho:fw G N o orelse):SS G N (rK n t b o) (.While e body orelse p):=by
 intro C hC σ h ρ s S E Q hQ
 unfold rK at h hQ
 generalize hr:kh n t b o C.dn σ=r at h hQ
 refine wpAny_While ?_
 refine codeAny_whileLoop (I:=λ n s'=>∃ρ' σ' h' tk',s'={s with heap:=h',toks:=tk'}/\ρ<+:ρ'/\SR G C ρ' σ' h'/\kh n t b o C.dn σ'=r) ?_ n ⟨ρ,σ,s.heap,s.toks,rfl,ah _,S,hr⟩
 rintro n _ ⟨ρ',σ',h',tk',rfl,p'0,S',hr'⟩
 cases n with
 |zero=>exact absurd hr'.symm h
 |succ n=>
  have hr2:((t C.dn σ').b .no λ x σ1=>bb x (RF.rec (motive:=λ _=>RF) .no (kh n t b o C.dn) .nx (kh n t b o C.dn) .rt (b C.dn σ1)) (o C.dn σ1))=r:=hr'
  refine RB.elim hr2 (hz:=Ne.symm h) λ x σ1 h1 hr3=>?_
  refine ht C hC _ _ _ h1 ρ' _ S' _ _ λ ρ1 u t'1 k'1 p'1 S'1 r'1=>?_
  cases(r'1)
  cases x with
  |false=>
   have hr4:o C.dn σ1=r:=hr3
   have:=ho C hC σ1 (by rw[hr4];exact h) ρ1 ⟨t'1,s.gens,s.drawn,k'1,s.os⟩ S'1
   rw[hr4]at this
   exact this _ _ λ ρ2 a t'2 k'2 p'2 S'2 r'2=>hQ ρ2 a t'2 k'2 (p'0.trans (p'1.trans p'2)) S'2 r'2
  |true=>
   have hr4:RF.rec (motive:=λ _=>RF) .no (kh n t b o C.dn) .nx (kh n t b o C.dn) .rt (b C.dn σ1)=r:=hr3
   have hq:b C.dn σ1≠.no:=λ z=>by rw[z]at hr4;exact h hr4.symm
   refine hb C hC σ1 hq ρ1 ⟨t'1,s.gens,s.drawn,k'1,s.os⟩ S'1 _ _ λ ρ2 a t'2 k'2 p'2 S'2 r'2=>?_
   cases q:b C.dn σ1 with
   |no=>exact absurd q hq
   |nx σ2=>rw[q]at hr4 S'2 r'2;cases r'2;exact⟨n,Nat.lt_succ_self n,ρ2,σ2,t'2,k'2,rfl,p'0.trans (p'1.trans p'2),S'2,hr4⟩
   |ct σ2=>rw[q]at hr4 S'2 r'2;cases r'2;exact⟨n,Nat.lt_succ_self n,ρ2,σ2,t'2,k'2,rfl,p'0.trans (p'1.trans p'2),S'2,hr4⟩
   |br σ2=>
    rw[q]at hr4 S'2 r'2
    cases r'2
    cases hr4
    exact hQ ρ2 _ t'2 k'2 (p'0.trans (p'1.trans p'2)) S'2 rfl
   |rt v σ2=>
    rw[q]at hr4 S'2 r'2
    refine aQ r'2 λ y e r'2=>?_
    rw[e]
    cases hr4
    exact hQ ρ2 _ t'2 k'2 (p'0.trans (p'1.trans p'2)) S'2 ⟨y,rfl,r'2⟩
end
noncomputable def eM (a b:AV):Bool:=match a,b with
 |.int i,.int j=>i == j
 |.str l,.str r=>si l r
 |_,_=>false
noncomputable def iN (kvs:List (AV×AV))(k:AV):Option AV:=List.rec (motive:=λ _=>Option AV) none (λ p _ ih=>bb (eM p.1 k) (some p.2) ih) kvs
noncomputable def wz (kvs:List (AV×AV))(k v:AV):List (AV×AV):=List.rec (motive:=λ _=>List (AV×AV)) [] (λ p _ ih=>bb (eM p.1 k) ((p.1,v)::ih) (p::ih)) kvs
noncomputable def wC (kvs:List (AV×AV))(k:AV):List (AV×AV):=List.rec (motive:=λ _=>List (AV×AV)) [] (λ p _ ih=>bb (eM p.1 k) ih (p::ih)) kvs
noncomputable def fg (kd:Bool)(k:AV):Bool:=match kd,k with
 |true,.str _=>true
 |false,.int _=>true
 |_,_=>false
structure KD (KT:b4) {K:Type} [DecidableEq K] (knd:PySem.KeyKind KT.prog KT.w K) (enc:K->AV):Prop where
 eq:∀a b,eM (enc a) (enc b)=decide (a=b)
 is:∀(ρ:List Addr) (k:K) (y:Value),VR KT ρ (enc k) y->knd.is k y=true
 of:∀(ρ:List Addr) (k:K) (y:Value),knd.is k y=true->VR KT ρ (enc k) y
theorem kF (KT:b4):KD KT (PySem.strKind KT.prog KT.w) kT:=by
 refine⟨λ a b=>?_,λ ρ k y r=>?_,λ ρ k y r=>?_⟩
 ·show si a.cps.toList b.cps.toList=_
  rw[iL]
  by_cases h:a=b
  ·subst h;simp
  ·have:a.cps.toList≠b.cps.toList:=λ q=>h (by
    obtain⟨⟨x⟩⟩:=a
    obtain⟨⟨y⟩⟩:=b
    simp at q
    rw[q])
   rw[beq_eq_false_iff_ne.mpr this]
   simp[h]
 ·refine eE r λ t z1_=>?_;clear r;subst z1_
  show Value.isStrOf k (.str ⟨k.cps.toList.toArray⟩ t)=true
  obtain⟨⟨x⟩⟩:=k
  simp[Value.isStrOf]
 ·refine eE (Value.isStrOf_shape r) λ t z1_=>?_;subst z1_
  exact⟨t,by obtain⟨⟨x⟩⟩:=k;rfl⟩
theorem kG (KT:b4):KD KT (PySem.intKind KT.prog KT.w) AV.int:=by
 refine⟨λ a b=>?_,λ ρ k y r=>?_,λ ρ k y r=>?_⟩
 ·show(a == b)=_
  by_cases h:a=b<;>simp[h]
 ·refine eE r λ t z1_=>?_;clear r;subst z1_
  show Value.isInt k (.int k t)=true
  simp[Value.isInt]
 ·refine eE (Value.isInt_shape r) λ t z1_=>?_;subst z1_
  exact⟨t,rfl⟩
section
variable{KT:b4}{ρ:List Addr}{K:Type}[DecidableEq K] {knd:PySem.KeyKind KT.prog KT.w K}{enc:K->AV}
theorem KVR.length {kvs:List (AV×AV)}{xs:List (K×Value)}(r:KVR KT ρ enc kvs xs):kvs.length=xs.length:=by
 induction r with
 |nil=>rfl
 |cons _ _ ih=>simp[ih]
noncomputable def AtR (KT:b4)(ρ:List Addr)(z:Option AV)(f:Option Value):Prop:=match z with
 |some v=>∃x,f=some x/\VR KT ρ v x
 |none=>f=none
theorem KVR.find (D:KD KT knd enc){kvs:List (AV×AV)}{xs:List (K×Value)}(r:KVR KT ρ enc kvs xs)(k:K):AtR KT ρ (iN kvs (enc k)) (valueAt xs k):=by
 induction r with
 |nil=>rfl
 |@cons k' v x kvs xs hv _ ih=>
  change AtR KT ρ (bb (eM (enc k') (enc k)) (some v) (iN kvs (enc k))) (valueAt ((k',x)::xs) k)
  rw[D.eq]
  by_cases h:k'=k
  ·subst h
   rw[show decide (k'=k')=true by simp]
   exact⟨x,by simp[valueAt],hv⟩
  ·rw[show decide (k'=k)=false by simp[h]]
   have e:valueAt ((k',x)::xs) k=valueAt xs k:=by simp[valueAt,List.find?_cons,h]
   rw[e]
   exact ih
theorem KVR.put (D:KD KT knd enc){kvs:List (AV×AV)}{xs:List (K×Value)}(r:KVR KT ρ enc kvs xs){k:K}{v:AV}{x:Value}(hv:VR KT ρ v x):KVR KT ρ enc (wz kvs (enc k) v) (xs.map λ kv=>if kv.1=k then(kv.1,x)else kv):=by
 induction r with
 |nil=>exact .nil
 |@cons k' v' x' kvs xs hv' _ ih=>
  change KVR KT ρ enc (bb (eM (enc k') (enc k)) ((enc k',v)::wz kvs (enc k) v) ((enc k',v')::wz kvs (enc k) v)) _
  rw[D.eq,bg]
  by_cases h:k'=k
  ·rw[show decide (k'=k)=true by simp[h],if_pos h]
   exact .cons hv ih
  ·rw[show decide (k'=k)=false by simp[h],if_neg h]
   exact .cons hv' ih
theorem KVR.snoc {kvs:List (AV×AV)}{xs:List (K×Value)}(r:KVR KT ρ enc kvs xs){k:K}{v:AV}{x:Value}(hv:VR KT ρ v x):KVR KT ρ enc (kvs++[(enc k,v)]) (xs++[(k,x)]):=by
 induction r with
 |nil=>exact .cons hv .nil
 |cons h _ ih=>exact .cons h ih
theorem DR.mapOf {kvs:List (AV×AV)}{ep:Nat}{ob:Obj}{h:Heap}{a:Addr}(r:DR KT ρ knd enc kvs ep ob)(ho:h.get? a=some ob):∃xs,h.DictAt knd a xs ep/\KVR KT ρ enc kvs xs:=by
 refine dB r λ es xs a1 a2 a3 a4 a5 a6=>?_
 exact⟨xs,⟨ob,es,ho,a1,a2,a3,a4,a5⟩,a6⟩
theorem DR.of {kvs:List (AV×AV)}{xs:List (K×Value)}{ep:Nat}{h:Heap}{a:Addr}(d:h.DictAt knd a xs ep)(r:KVR KT ρ enc kvs xs):∃ob,h.get? a=some ob/\DR KT ρ knd enc kvs ep ob:=by
 refine dB d λ ob es ho a1 a2 a3 a4 a5=>?_
 exact⟨ob,ho,es,xs,a1,a2,a3,a4,a5,r⟩
end
noncomputable def Cx.add (C:Cx)(a:Addr)(ob:Obj):Cx:={C with B:=λ x=>if x=a then some (.ex ob)else C.B x}
section
variable{G:Gd}{C:Cx}{ρ:List Addr}{σ:AS}{h h':Heap}{a:Addr}{ob ob':Obj}
theorem Kept.of_add (hB:C.B a=none)(k:Kept (C.add a ob).B h):Kept C.B h:=λ b o e=>k b o (by
 show(if b=a then some (BO.ex ob)else C.B b)=some o
 rw[if_neg (λ q=>by rw[q,hB]at e;cases e)];exact e)
theorem CxOk.add (ok:CxOk G C)(hB:C.B a=none)(hL:a≠C.env.locals):CxOk G (C.add a ob):=
 ⟨ok.fn,ok.gl,ok.bi,ok.nd,ok.loc,ok.dbg,(if_neg hL.symm).trans ok.Lb,ok.glo,ok.dep,ok.uni,ok.hh,λ h k=>ok.kin h (k.of_add hB),λ h k=>ok.top h (k.of_add hB),λ h k=>ok.tab h (k.of_add hB),λ h k=>ok.b0 h (k.of_add hB),ok.ab,(by
  show(if sysModules=a then some (BO.ex ob)else C.B sysModules)≠none
  split<;>first|exact ok.sm|nofun),(λ b o e=>by
  show(if b=a then some (BO.ex ob)else C.B b)≠none
  split<;>first|exact ok.h0B b o e|nofun),ok.X0,ok.T0,ok.ktok,(by
  refine aQ ok.fl λ l h1 h2=>?_
  refine⟨l,h1,λ e he=>?_⟩
  refine gc (h2 e he) λ k c hc q=>?_
  refine⟨k,c,hc,q.imp id λ⟨d,h3,h4⟩=>⟨d,?_,h4⟩⟩
  show(if c=a then some (BO.ex ob)else C.B c)=_
  rw[if_neg (λ z=>by rw[z,hB]at h3;cases h3)]
  exact h3)⟩
theorem SR.add (S:SR G C ρ σ h)(ho:h.get? a=some ob)(hρ:a∉ρ)(hL:a≠C.env.locals)(hB:C.B a=none):SR G (C.add a ob) ρ σ h:=
 ⟨⟨λ b o e=>by
   change (if b=a then some (BO.ex ob)else C.B b)=some o at e
   split at e
   ·rename_i q;cases e;rw[q];exact ho
   ·exact S.rep.kept b o e,S.rep.len,S.rep.nd,λ b hb=>by
   show(if b=a then some (BO.ex ob)else C.B b)=none
   rw[if_neg (λ q=>hρ (by rw[← q];exact hb))]
   exact S.rep.off b hb,S.rep.obj⟩,S.fr,S.Lρ,S.cells,S.ok.add hB hL⟩
theorem SR.drop (S:SR G (C.add a ob) ρ σ h)(ok:CxOk G C)(hB:C.B a=none):SR G C ρ σ h/\h.get? a=some ob/\a∉ρ:=
 ⟨⟨⟨S.rep.kept.of_add hB,S.rep.len,S.rep.nd,λ b hb=>by
   have e:=S.rep.off b hb
   change (if b=a then some (BO.ex ob)else C.B b)=none at e
   split at e
   ·cases e
   ·exact e,S.rep.obj⟩,S.fr,S.Lρ,S.cells,ok⟩,S.rep.kept a (.ex ob) (if_pos rfl),λ q=>by
   have e:=S.rep.off a q
   change (if a=a then some (BO.ex ob)else C.B a)=none at e
   rw[if_pos rfl]at e
   cases e⟩
theorem SR.extBut (S:SR G C ρ σ h)(he:Heap.ExtBut a h h')(hρ:a∉ρ)(hL:a≠C.env.locals)(hB:C.B a=none):SR G C ρ σ h':=by
 refine aQ S.fr λ m e b=>?_
 exact⟨S.rep.extBut he hρ hB,⟨m,e.extBut he hL.symm,b⟩,S.Lρ,S.cells,S.ok⟩
theorem SR.new (S:SR G C ρ σ h):h.objs.size∉ρ/\h.objs.size≠C.env.locals/\C.B h.objs.size=none:=
 ⟨λ q=>aM _ (S.rep.lt q),Ne.symm (Nat.ne_of_lt S.lnlt),by
  cases q:C.B h.objs.size with
  |none=>rfl
  |some x=>exact absurd (BO.ok.lt S.big (S.rep.kept _ _ q)) (aM _)⟩
end
noncomputable def ItO (G:Gd)(ρ:List Addr)(it:IT)(k:Nat)(ob:Obj):Prop:=match it with
 |.li r=>∃a,ρ[r]? =some a/\ob.cls= .type "list_iterator"/\ob.data= .fields #[.ref a,.int k 0]
 |.tu r=>∃a,ρ[r]? =some a/\ob.cls= .type "tuple_iterator"/\ob.data= .fields #[.ref a,.int k 0]
 |.kt i xs=>∃a,G.KT.tab i=some (a,xs)/\ob.cls= .type "tuple_iterator"/\ob.data= .fields #[.ref a,.int k 0]
 |.dk r n ep=>∃a,ρ[r]? =some a/\ob.cls= .type "dict_keyiterator"/\ob.data= .fields #[.ref a,.int k 0,.int n 0,.int ep 0]
 |.dv r n ep=>∃a,ρ[r]? =some a/\ob.cls= .type "dict_valueiterator"/\ob.data= .fields #[.ref a,.int k 0,.int n 0,.int ep 0]
 |.rg a c n=>ob={cls:=.type "range_iterator",dict:=none,data:=.fields #[rawInt (a+(k:Int)*c),rawInt ((n:Int) - (k:Int)),rawInt c],slots:=#[]}
theorem ItO.mono {G:Gd}{ρ ρ':List Addr}{it:IT}{k:Nat}{ob:Obj}(p:ρ<+:ρ')(x:ItO G ρ it k ob):ItO G ρ' it k ob:=by
 cases it with
 |li r=>refine aQ x λ a e y=>?_;exact⟨a,cx p e,y⟩
 |tu r=>refine aQ x λ a e y=>?_;exact⟨a,cx p e,y⟩
 |kt=>exact x
 |dk r=>refine aQ x λ a e y=>?_;exact⟨a,cx p e,y⟩
 |dv r=>refine aQ x λ a e y=>?_;exact⟨a,cx p e,y⟩
 |rg=>exact x
theorem SR.nsm {G:Gd}{C:Cx}{ρ:List Addr}{σ:AS}{h:Heap}(S:SR G C ρ σ h){a:Addr}(ha:a∈ρ):(a == sysModules)=false:=by
 rw[beq_eq_false_iff_ne]
 intro q
 exact S.ok.sm (q▸S.rep.off a ha)
inductive DG (KT:b4) (ρ:List Addr) (kvs:List (AV×AV)) (ep:Nat) (h:Heap) (a:Addr):Prop
 |mk {K:Type} [DecidableEq K] (knd:PySem.KeyKind KT.prog KT.w K) (enc:K->AV) (D:KD KT knd enc) (xs:List (K×Value)) (hd:h.DictAt knd a xs ep) (hr:KVR KT ρ enc kvs xs):DG KT ρ kvs ep h a
theorem g_ {G:Gd}{C:Cx}{ρ:List Addr}{σ:AS}{h:Heap}(S:SR G C ρ σ h){r:Nat}{a:Addr}{kd:Bool}{kvs:List (AV×AV)}{ep:Nat}(ha:ρ[r]? =some a)(hst:σ.st[r]? =some (.dict kd kvs ep)):DG G.KT ρ kvs ep h a:=by
 refine aQ (S.obj ha hst) λ ob ho rr=>?_
 cases kd with
 |true=>
  refine aQ (DR.mapOf (show DR G.KT ρ (PySem.strKind G.KT.prog G.KT.w) kT kvs ep ob from rr) ho) λ xs hd hr=>?_
  exact⟨_,kT,kF _,xs,hd,hr⟩
 |false=>
  refine aQ (DR.mapOf (show DR G.KT ρ (PySem.intKind G.KT.prog G.KT.w) AV.int kvs ep ob from rr) ho) λ xs hd hr=>?_
  exact⟨_,AV.int,kG _,xs,hd,hr⟩
theorem KVR.get {KT:b4}{ρ:List Addr}{K:Type}{enc:K->AV}{kvs:List (AV×AV)}{xs:List (K×Value)}(r:KVR KT ρ enc kvs xs):∀{i:Nat} {p:AV×AV},kvs[i]? =some p->∃k x,xs[i]? =some (k,x)/\p.1=enc k/\VR KT ρ p.2 x:=by
 induction r with
 |nil=>intro i p e;simp at e
 |@cons k v x kvs xs hv _ ih=>
  intro i p e
  cases i with
  |zero=>simp at e;subst e;exact⟨k,x,rfl,rfl,hv⟩
  |succ i=>simpa using ih (by simpa using e)
theorem KVR.none {KT:b4}{ρ:List Addr}{K:Type}[DecidableEq K] {enc:K->AV}{kvs:List (AV×AV)}{xs:List (K×Value)}(r:KVR KT ρ enc kvs xs){i:Nat}(e:kvs[i]? =none):xs[i]? =none:=by
 rw[aK]at e ⊢
 rw[← r.length]
 exact e
section
variable{G:Gd}{C:Cx}{ρ:List Addr}{σ:AS}{s:Shared}{it:Addr}{ob:Obj}{I:IT}{k:Nat}
theorem j4 {α:Type}{b:Bool}{t:Option (Option α)}{z:Option α}(h:bb b t none=some z):b=true/\t=some z:=by
 cases b with
 |false=>cases h
 |true=>exact⟨rfl,h⟩
theorem jY {z:Option AV}{Q:Option Value->Shared->Prop}{E:Value->Shared->Prop}(S:SR G C ρ σ s.heap)(hh:C.A.handled=none)(ho:s.heap.get? it=some ob)(i:ItO G ρ I k ob)(e:b7 I k σ.st=some z)
  (h0:z=none->∀h',Heap.ExtBut it s.heap h'->Q none {s with heap:=h'})
  (h1:∀v,z=some v->∀x h' tk ob',Heap.ExtBut it s.heap h'->h'.get? it=some ob'->ItO G ρ I (k+1) ob'->VR G.KT ρ v x->Q (some x) {s with heap:=h',toks:=tk}):
  wpAny (model G.prog G.w) C.A (pyNext (.ref it)) Q E s:=by
 cases I with
 |li r=>
  refine Op.elim e λ o hst e=>?_
  rw[aS]at hst
  cases o with
  |list xs=>
   replace e:some (cy xs k)=some z:=e
   rw[aS]at e
   cases e
   refine bW i λ a ha hc hd=>?_
   refine bC (S.obj ha hst) λ ob1 ho1 vs n z1_ r1=>?_;subst z1_
   have hit:s.heap.IsListIter it a k:=⟨ob,ho,hc,hd⟩
   have hl:s.heap.IsList a vs:=⟨_,ho1,rfl,n,rfl⟩
   rcases hz:xs[k]? with _|v
   ·refine wpAny_pyNext_list_end hh hit hl ?_ λ h' he=>h0 hz h' he
    have:=aK.mp hz
    rw[r1.length]at this
    exact Array.getElem?_eq_none_iff.mpr (by simpa using this)
   ·refine aQ (r1.get hz) λ x hx rx=>?_
    refine wpAny_pyNext_list_item hit hl (x:=x) (by simpa using hx) λ h' hi he=>?_
    refine bW hi λ ob' ho' hc' hd'=>?_
    exact h1 v hz x h' s.toks ob' he.extBut ho' ⟨a,ha,hc',hd'⟩ rx
  |_=>cases e
 |tu r=>
  refine Op.elim e λ o hst e=>?_
  rw[aS]at hst
  cases o with
  |tup xs=>
   replace e:some (cy xs k)=some z:=e
   rw[aS]at e
   cases e
   refine bW i λ a ha hc hd=>?_
   refine bC (S.obj ha hst) λ ob1 ho1 vs n z1_ r1=>?_;subst z1_
   have hit:s.heap.IsTupleIter it a k:=⟨ob,ho,hc,hd⟩
   have hl:s.heap.IsTuple a vs:=⟨_,ho1,rfl,n,rfl⟩
   rcases hz:xs[k]? with _|v
   ·refine wpAny_pyNext_tuple_end hh hit hl ?_ λ h' he=>h0 hz h' he
    have:=aK.mp hz
    rw[r1.length]at this
    exact Array.getElem?_eq_none_iff.mpr (by simpa using this)
   ·refine aQ (r1.get hz) λ x hx rx=>?_
    refine wpAny_pyNext_tuple_item hit hl (x:=x) (by simpa using hx) λ h' hi he=>?_
    refine bW hi λ ob' ho' hc' hd'=>?_
    exact h1 v hz x h' s.toks ob' he.extBut ho' ⟨a,ha,hc',hd'⟩ rx
  |_=>cases e
 |kt j xs=>
  replace e:some (cy xs k)=_:=e
  rw[aS]at e
  cases e
  refine bW i λ a ha hc hd=>?_
  refine bC (S.ok.tab _ S.rep.kept _ _ ha) λ ob1 ho1 vs n z1_ r1=>?_;subst z1_
  have hit:s.heap.IsTupleIter it a k:=⟨ob,ho,hc,hd⟩
  have hl:s.heap.IsTuple a vs:=⟨_,ho1,rfl,n,rfl⟩
  rcases hz:xs[k]? with _|v
  ·refine wpAny_pyNext_tuple_end hh hit hl ?_ λ h' he=>h0 hz h' he
   have:=aK.mp hz
   rw[r1.length]at this
   exact Array.getElem?_eq_none_iff.mpr (by simpa using this)
  ·refine aQ (r1.get hz) λ x hx rx=>?_
   refine wpAny_pyNext_tuple_item hit hl (x:=x) (by simpa using hx) λ h' hi he=>?_
   refine bW hi λ ob' ho' hc' hd'=>?_
   exact h1 v hz x h' s.toks ob' he.extBut ho' ⟨a,ha,hc',hd'⟩ (rx.mono (List.nil_prefix ..))
 |dk r n ep=>
  refine Op.elim e λ o hst e=>?_
  rw[aS]at hst
  cases o with
  |dict kd kvs ep'=>
   refine eA (j4 e) λ hn e1=>?_
   refine eA (j4 e1) λ he e2=>?_
   rw[aS]at e2
   have hn:=aE hn
   have he:=aE he
   subst hn he
   have e3:=aj e2
   subst e3
   refine bW i λ a ha hc hd=>?_
   obtain⟨knd,enc,D,xs,hda,hr⟩:=g_ S ha hst
   have hit:s.heap.IsKeyIter it a k xs.length ep':=⟨ob,ho,hc,by rw[← hr.length];exact hd⟩
   rcases hz:kvs[k]? with _|p
   ·rw[hz]at h0
    exact wpAny_pyNext_dict_end hh hit hda (hr.none hz) λ h' he=>h0 rfl h' he
   ·refine bR (hr.get hz) λ kk x hx e1 rx=>?_
    refine wpAny_pyNext_dict_item hit hda hx λ key h' hk hi he=>?_
    refine bW hi λ ob' ho' hc' hd'=>?_
    refine h1 p.1 (by rw[hz];rfl) key h' s.toks ob' he.extBut ho' ⟨a,ha,hc',by rw[hr.length];exact hd'⟩ ?_
    rw[e1]
    exact D.of ρ kk key hk
  |_=>cases e
 |dv r n ep=>
  refine Op.elim e λ o hst e=>?_
  rw[aS]at hst
  cases o with
  |dict kd kvs ep'=>
   refine eA (j4 e) λ hn e1=>?_
   refine eA (j4 e1) λ he e2=>?_
   rw[aS]at e2
   have hn:=aE hn
   have he:=aE he
   subst hn he
   have e3:=aj e2
   subst e3
   refine bW i λ a ha hc hd=>?_
   obtain⟨knd,enc,D,xs,hda,hr⟩:=g_ S ha hst
   have hit:s.heap.IsValIter it a k xs.length ep':=⟨ob,ho,hc,by rw[← hr.length];exact hd⟩
   rcases hz:kvs[k]? with _|p
   ·rw[hz]at h0
    exact wpAny_pyNext_values_end hh hit hda (hr.none hz) λ h' he=>h0 rfl h' he
   ·refine bR (hr.get hz) λ kk x hx e1 rx=>?_
    refine wpAny_pyNext_values_item hit hda hx λ h' hi he=>?_
    refine bW hi λ ob' ho' hc' hd'=>?_
    exact h1 p.2 (by rw[hz];rfl) x h' s.toks ob' he.extBut ho' ⟨a,ha,hc',by rw[hr.length];exact hd'⟩ rx
  |_=>cases e
 |rg a c n=>
  have hit:IsRangeIter s.heap it (a+k*c) (n - k) c:=by rw[show IsRangeIter s.heap it (a+k*c) (n - k) c=(s.heap.get? it=some _)from rfl,ho,show ob=_ from i]
  change bb (Nat.ble n k) (some none) (fI (a+(Int.ofNat k)*c) λ i=>some (some (.int i)))=some z at e
  rcases hb:Nat.ble n k with _|_
  ·rw[hb]at e
   change (fI (a+(Int.ofNat k)*c) λ i=>some (some (.int i)))=some z at e
   rw[ek]at e
   cases e
   have:=nC hb
   refine wpAny_pyNext_range_item hit (by exact ω1 this) λ h' hi he=>?_
   refine h1 _ rfl _ h' _ _ he.extBut hi ?_ ⟨_,rfl⟩
   have e1:a+(k:Int)*c+c=a+((k+1:Nat):Int)*c:=by rw[Int.natCast_add,Int.add_mul];simp[Int.add_assoc]
   have e2:(n:Int) - k - 1=n - ((k+1:Nat):Int):=by exact ω2
   show _=_
   rw[e1,e2]
  ·rw[hb]at e
   cases e
   have:=bA hb
   exact wpAny_pyNext_range_end hh hit (by exact ω3 this) λ h' he=>h0 rfl h' he
end
section
variable{G:Gd}{N:Nm}
theorem i6 {C:Cx}{ρ:List Addr}{σ:AS}{s:Shared}{x:AV}{y:Value}{I:IT}{E Q:Value->Shared->Prop}(S:SR G C ρ σ s.heap)(e:cF C.kt x σ.st=some I)(r:VR G.KT ρ x y)
  (h:∀ob h',ItO G ρ I 0 ob->h'.get? s.heap.objs.size=some ob->(∀b o,s.heap.get? b=some o->h'.get? b=some o)->Q (.ref s.heap.objs.size) {s with heap:=h'}):wpAny (model G.prog G.w) C.A (pyIter y) Q E s:=by
 cases x with
 |ref i=>
  refine Op.elim e λ o hst e=>?_
  rw[aS]at hst
  refine aQ r λ a ha z1_=>?_;clear r;subst z1_
  cases o with
  |list xs=>
   cases e
   refine bC (S.obj ha hst) λ ob1 ho1 vs n z1_ r1=>?_;subst z1_
   exact wpAny_pyIter_list ⟨_,ho1,rfl,n,rfl⟩ (h _ _ ⟨a,ha,rfl,rfl⟩ (aY _ rfl) λ b o e=>av _ e)
  |tup xs=>
   cases e
   refine bC (S.obj ha hst) λ ob1 ho1 vs n z1_ r1=>?_;subst z1_
   exact wpAny_pyIter_tuple ⟨_,ho1,rfl,n,rfl⟩ (h _ _ ⟨a,ha,rfl,rfl⟩ (aY _ rfl) λ b o e=>av _ e)
  |range a' b' c'=>
   refine ay e λ hs e=>?_
   cases e
   refine pK (S.obj ha hst) λ ob1 ho1 t u v z1_=>?_;subst z1_
   refine wpAny_pyIter_range (r:=a) (a:=a') (b:=b') (c:=c') (t:=t) (u:=u) (v:=v) ho1 hs (h _ _ ?_ (aY _ rfl) λ b o e=>av _ e)
   show _=_
   rw[← rangeSize_toNat]
   simp
  |dict kd kvs ep=>
   cases e
   obtain⟨knd,enc,D,xs,hda,hr⟩:=g_ S ha hst
   refine wpAny_pyIter_dict (S.nsm (ac ha)) hda (h _ _ ⟨a,ha,rfl,?_⟩ (aY _ rfl) λ b o e=>av _ e)
   rw[hr.length]
   rfl
  |vals d=>
   refine Op.elim e λ o hst2 e=>?_
   rw[aS]at hst2
   cases o with
   |dict kd kvs ep=>
    cases e
    refine uF (S.obj ha hst) λ ob1 ho1 ad had hc1 hd1=>?_
    obtain⟨knd,enc,D,xs,hda,hr⟩:=g_ S had hst2
    refine wpAny_pyIter_values ⟨ob1,ho1,hc1,hd1⟩ hda (h _ _ ⟨ad,had,rfl,?_⟩ (aY _ rfl) λ b o e=>av _ e)
    rw[hr.length]
    rfl
   |_=>cases e
  |_=>cases e
 |kt i=>
  refine Op.elim e λ xs hk e=>?_
  cases e
  refine eE (S.ok.ktok _ _ hk) λ ad hkt=>?_
  cases VR.kt_of hkt r
  refine bC (S.ok.tab _ S.rep.kept _ _ hkt) λ ob1 ho0 vs n z1_ r1=>?_;subst z1_
  exact wpAny_pyIter_tuple ⟨_,ho0,rfl,n,rfl⟩ (h _ _ ⟨ad,hkt,rfl,rfl⟩ (aY _ rfl) λ b o e=>av _ e)
 |_=>cases e
noncomputable def wQ (G:Gd)(C:Cx)(ρ:List Addr)(s:Shared)(it:Addr)(I:IT)(t:GF)(b o:SF)(r:RF)(n:Nat)(s':Shared):Prop:=∃ρ' σ' h' tk' k ob,s'={s with heap:=h',toks:=tk'}/\ρ<+:ρ'/\SR G C ρ' σ' h'/\h'.get? it=some ob/\ItO G ρ' I k ob/\it∉ρ'/\cb n t b o C.dn I k σ'=r
theorem yV {n:Nat}{t:GF}{b o:SF}{tgt:PySem.Expr}{body orelse:List Stmt}(ht:SG G N t tgt)(hb:fw G N b body)(ho:fw G N o orelse)(hlet:∀it v,letOwnedTupleGo tgt it v=pure ())
  {C:Cx} (hC:C.is N) {σ:AS} {I:IT} {r:RF} (hr:cb n t b o C.dn I 0 σ=r) (h:r≠.no) {ρ:List Addr} {s:Shared} {it:Addr} {ob:Obj} (S:SR G C ρ σ s.heap) (hh:C.A.handled=none) (hit:s.heap.get? it=some ob) (hI:ItO G ρ I 0 ob) (hρ:it∉ρ) (hL:it≠C.env.locals) (hB:C.B it=none)
  (E:Value->Shared->Prop) (Q:Result->Shared->Prop) (hQ:∀ρ' a h' tk',ρ<+:ρ'->SR G C ρ' r.st h'->Rf G.KT ρ' r a->Q (.ok a) {s with heap:=h',toks:=tk'}):
  codeAny (model G.prog G.w) C.A (.forLoop tgt (.ref it) body orelse C.env) Q s:=by
 refine codeAny_forLoop (I:=wQ G C ρ s it I t b o r) ?_ n ⟨ρ,σ,s.heap,s.toks,0,ob,rfl,ah _,S,hit,hI,hρ,hr⟩ (hlet _)
 rintro n _ ⟨ρ',σ',h',tk',k,ob,rfl,p'0,S',hit',hI',hρ',hr'⟩
 cases n with
 |zero=>exact absurd hr'.symm h
 |succ n=>
  have hr2:(Op.b (b7 I k σ'.st) .no λ z=>Option.rec (motive:=λ _=>RF) (o C.dn σ') (λ v=>(t C.dn v σ').b .no λ σ1=>RF.rec (motive:=λ _=>RF) .no (cb n t b o C.dn I (Nat.succ k)) .nx (cb n t b o C.dn I (Nat.succ k)) .rt (b C.dn σ1)) z)=r:=hr'
  refine Op.elim hr2 (hz:=Ne.symm h) λ z hz hr3=>?_
  refine jY (s:=⟨h',s.gens,s.drawn,tk',s.os⟩) S' hh hit' hI' hz ?_ ?_
  ·rintro rfl h'1 he
   have S'1:SR G C ρ' σ' h'1:=S'.extBut he hρ' hL hB
   have hr4:o C.dn σ'=r:=hr3
   have:=ho C hC σ' (by rw[hr4];exact h) ρ' ⟨h'1,s.gens,s.drawn,tk',s.os⟩ S'1
   rw[hr4]at this
   exact this _ _ λ ρ2 a t'2 k'2 p'2 S'2 r'2=>hQ ρ2 a t'2 k'2 (p'0.trans p'2) S'2 r'2
  ·rintro v rfl x h'1 tk1 ob'1 he hob hI1 rx
   have S'1:SR G (C.add it ob'1) ρ' σ' h'1:=(S'.extBut he hρ' hL hB).add hob hρ' hL hB
   have hr4:((t C.dn v σ').b .no λ σ1=>RF.rec (motive:=λ _=>RF) .no (cb n t b o C.dn I (Nat.succ k)) .nx (cb n t b o C.dn I (Nat.succ k)) .rt (b C.dn σ1))=r:=hr3
   refine RU.elim hr4 (hz:=Ne.symm h) λ σ1 h1 hr5=>?_
   refine ht (C.add it ob'1) hC _ _ _ h1 ρ' ⟨h'1,s.gens,s.drawn,tk1,s.os⟩ x rx S'1 _ _ λ ρ1 u t'1 k'1 p'1 S'2 _=>?_
   have go:∀ρ2 σ2 t'2 k'2,ρ1<+:ρ2->SR G (C.add it ob'1) ρ2 σ2 t'2->cb n t b o C.dn I (Nat.succ k) σ2=r->∃m,m<n+1/\wQ G C ρ s it I t b o r m {s with heap:=t'2,toks:=k'2}:=by
    intro ρ2 σ2 t'2 k'2 p'2 S3 e
    refine fT (S3.drop S.ok hB) λ S4 g q=>?_
    exact⟨n,Nat.lt_succ_self n,ρ2,σ2,t'2,k'2,k+1,ob'1,rfl,p'0.trans (p'1.trans p'2),S4,g,hI1.mono (p'1.trans p'2),q,e⟩
   have hq:b C.dn σ1≠.no:=λ z=>by rw[z]at hr5;exact h hr5.symm
   refine hb (C.add it ob'1) hC σ1 hq ρ1 ⟨t'1,s.gens,s.drawn,k'1,s.os⟩ S'2 _ _ λ ρ2 a t'2 k'2 p'2 S3 r'2=>?_
   rw[show b (C.add it ob'1).dn σ1=b C.dn σ1 from rfl]at S3 r'2
   cases q:b C.dn σ1 with
   |no=>exact absurd q hq
   |nx σ2=>rw[q]at hr5 S3 r'2;cases r'2;exact go ρ2 _ t'2 k'2 p'2 S3 hr5
   |ct σ2=>rw[q]at hr5 S3 r'2;cases r'2;exact go ρ2 _ t'2 k'2 p'2 S3 hr5
   |br σ2=>
    rw[q]at hr5 S3 r'2
    cases r'2
    cases hr5
    exact hQ ρ2 _ t'2 k'2 (p'0.trans (p'1.trans p'2)) (S3.drop S.ok hB).1 rfl
   |rt v σ2=>
    rw[q]at hr5 S3 r'2
    refine aQ r'2 λ y e r'2=>?_
    rw[e]
    cases hr5
    exact hQ ρ2 _ t'2 k'2 (p'0.trans (p'1.trans p'2)) (S3.drop S.ok hB).1 ⟨y,rfl,r'2⟩
theorem eU {n:Nat}{t:GF}{a:EF}{b o:SF}{tgt e:PySem.Expr}{body orelse:List Stmt}{p:Pos}(ht:SG G N t tgt)(ha:SE G N a e)(hb:fw G N b body)(ho:fw G N o orelse)(hlet:∀it v,letOwnedTupleGo tgt it v=pure ())
  (hf:∀env x,foldedSetIterable e env x=pure x):SS G N (dM n t a b o) (.For tgt e body orelse p):=by
 intro C hC σ h ρ s S E Q hQ
 generalize hr:dM n t a b o C.dn σ=r at h hQ
 refine ay hr (hz:=Ne.symm h) λ hn hr=>?_
 refine RV.elim hr (hz:=Ne.symm h) λ x σ1 h1 hr=>?_
 refine Op.elim hr (hz:=Ne.symm h) λ I h2 hr=>?_
 have hh:=S.ok.hh hn
 refine wpAny_For (ha C hC _ _ _ h1 ρ s S E _ λ ρ1 u t'1 k'1 p'1 S'1 r'1=>?_) (hf _)
 refine i6 (s:=⟨t'1,s.gens,s.drawn,k'1,s.os⟩) S'1 h2 r'1 λ ob h' hI ho' hk=>?_
 refine fT S'1.new λ n1 n2 n3=>?_
 exact yV ht hb ho hlet hC hr h (s:=⟨h',s.gens,s.drawn,k'1,s.os⟩) (S'1.ext hk) hh ho' hI n1 n2 n3 E _ λ ρ2 a t'2 k'2 p'2 S'2 r'2=>hQ ρ2 a t'2 k'2 (p'1.trans p'2) S'2 r'2
end
structure DefB (G:Gd) (N:Nm) (np:Nat) (f:Addr) (fd:FuncData) (body:List Stmt):Prop where
 isAt:∃o,G.K.lookup f=some o/\o.data= .func fd
 code:codeIn G.K fd.code fd.qualname=true
 bd:fd.body= .stmts body
 gl:fd.globals=mainGlobals
 bi:fd.builtins=builtinsNs
 np:np<=N.vn.length
 cell:∀x∈fd.scope.names,x.2≠.cell
 loc:∀x∈N.vn,fd.scope.names.lookup x=some .local/\(x == ("__debug__":Str))=false
 nd:N.vn.Nodup
 glo:∀x∈N.gs,fd.scope.names.lookup x=some .globalImplicit/\(x == ("__debug__":Str))=false
 co:fd.scope.isCoroutine=false
 gen:fd.scope.isGenerator=false
 kind:fd.scope.kind= .function
structure eQ (G:Gd) (N:Nm) (n0:Nat) (f:Addr) (fd:FuncData) (body:List Stmt):Prop extends DefB G N n0 f fd body where
 bind:∀xs:List Value,xs.length=n0->bindArgs fd ⟨xs,[]⟩=pure (List.zip (N.vn.take n0) xs)
theorem iC:∀(ns:List Str) (xs:List Value) (i:Nat) (x:Str) (v:Value),ns.Nodup->ns[i]? =some x->xs[i]? =some v->(List.zip ns xs).reverse.lookup x=some v:=by
 intro ns
 induction ns with
 |nil=>intro xs i x v _ e;simp at e
 |cons n ns ih=>
  intro xs i x v hn e1 e2
  cases xs with
  |nil=>simp at e2
  |cons y ys=>
   rw[List.nodup_cons]at hn
   rw[List.zip_cons_cons,List.reverse_cons,List.lookup_append]
   cases i with
   |zero=>
    simp only[List.getElem?_cons_zero,Option.some.injEq]at e1 e2
    subst e1 e2
    have:(List.zip ns ys).reverse.lookup n=none:=by
     rw[List.lookup_eq_none_iff]
     intro p hp
     have:=(List.of_mem_zip (List.mem_reverse.mp hp)).1
     simp only[bne_iff_ne,ne_eq]
     intro q
     exact hn.1 (q▸this)
    rw[this]
    simp
   |succ i=>
    simp only[hZ]at e1 e2
    rw[ih ys i x v hn.2 e1 e2]
    rfl
section
variable{G:Gd}{N:Nm}{np n:Nat}{f:Addr}{fd:FuncData}{body:List Stmt}{b:SF}
theorem m3 {vs:List AV}{n i:Nat}{v:AV}(e:(f_ vs n)[i]? =some (some v)):vs[i]? =some v:=by
 unfold f_ at e
 by_cases hi:i<vs.length
 ·rw[aL (by simpa using hi)]at e
  rw[aB]at e
  cases q:vs[i]? with
  |none=>rw[q]at e;cases e
  |some w=>rw[q]at e;simpa using e
 ·rw[az (by simpa using hi)]at e
  rw[bX]at e
  split at e
  ·cases e
  ·cases e
theorem k6 (F:DefB G N np f fd body)(hb:fw G N b body){C:Cx}(ok:CxOk G C){d:Nat}(hd:d+1<=C.d){hn':Bool}(hhn:hn'=true->C.hn=true){kt':Nat->Option (List AV)}(hkt:∀i xs,kt' i=some xs->∃a,G.KT.tab i=some (a,xs)){B:Base}{ρ:List Addr}{st:List AO}{s:Shared}(hsz:G.h0.objs.size<=s.heap.objs.size)(hsm:B sysModules≠none)(hhb:∀a o,G.h0.get? a=some o->B a≠none)(hB:∀h,Kept B h->Kept C.B h)(hfl:lw B C.env.locals/\∀a,lw C.B a->lw B a)(R:Rep G.KT B ρ st s.heap)
  {vs:List AV} {xs:List Value} (hl:vs.length=np) (r:VRs G.KT ρ vs xs) {args:Args} (hbind:BindsTo s fd args (List.zip (N.vn.take np) xs)) {q:RF} (hq:b ⟨[],d,hn',kt'⟩ ⟨st,f_ vs n⟩=q) (hn:q≠.no) {Q:Result->Shared->Prop}
  (hQ:∀ρ' a h' tk',ρ<+:ρ'->Rep G.KT B ρ' q.st.st h'->Rf G.KT ρ' q a->Q (.ok (.ret (match a with|.ret v=>v|_=>.none))) {s with heap:=h',toks:=tk'}):
  codeAny (model G.prog G.w) C.A (.call (.ref f) args) Q s:=by
 have K0:Kept C.B s.heap:=hB _ R.kept
 have X:=ok.kin _ K0
 have T:=ok.top _ K0
 refine aQ F.isAt λ o ho hdat=>?_
 have hlx:xs.length=np:=by rw[← r.length,hl]
 refine codeAny_call_def (fd:=fd) (body:=body) (binds:=List.zip (N.vn.take np) xs) (by have:=ok.dep;exact ω4 this) (X _ _ ho) hdat T.nolimit (codeRec_of X F.code) F.bd hbind F.cell ?_ ?_ F.co F.gen F.kind
 ·intro x hx
  exact(F.loc x.1 (List.mem_of_mem_take (List.of_mem_zip hx).1)).1
 intro h'0 hns hk
 let C':Cx:=⟨B,C.A.deeper (callEnv fd s.heap.objs.size f),callEnv fd s.heap.objs.size f,N.vn,N.gs,[],d,hn',kt'⟩
 have hLB:B s.heap.objs.size=none:=by
  cases e:B s.heap.objs.size with
  |none=>rfl
  |some x=>exact absurd (BO.ok.lt (Nat.lt_trans (by decide) T.g.lt) (R.kept _ _ e)) (aM _)
 have ok':CxOk G C':=by
  refine⟨F.kind,F.gl,F.bi,F.nd,λ i x e _=>(F.loc x (ac e)).1,λ x hx=>(F.loc x hx).2,hLB,λ x hx=>F.glo x hx,?_,?_,λ q=>ok.hh (hhn q),λ h k=>ok.kin h (hB h k),λ h k=>ok.top h (hB h k),λ h k=>ok.tab h (hB h k),λ h k=>ok.b0 h (hB h k),hsz,hsm,hhb,ok.X0,ok.T0,hkt,?_⟩
  ·show C.A.depth+1+d<recursionLimit
   have:=ok.dep
   exact ω5 this hd
  ·show C.A.units+3+8*d+200<cLine
   have:=ok.uni
   exact ω6 this hd
  ·refine aQ ok.fl λ l h1 h2=>?_
   refine⟨callEnv fd s.heap.objs.size f::l,by show C.A.frames.map _=_;rw[h1];rfl,λ e he=>?_⟩
   rcases List.mem_cons.mp he with rfl|he
   ·exact⟨by show fd.scope.kind≠_;rw[F.kind];nofun,_,rfl,.inl rfl⟩
   ·exact(h2 e he).mono hfl.1 hfl.2
 have R'1:Rep G.KT B ρ st h'0:=R.ext hk
 have S':SR G C' ρ ⟨st,f_ vs n⟩ h'0:=by
  refine⟨R'1,⟨_,hns,λ i v e=>?_⟩,λ q=>aM _ (R.lt q),λ i k e=>(by cases e),ok'⟩
  have e1:=m3 e
  refine aQ (r.get e1) λ x hx rx=>?_
  have hi:i<np:=by rw[← hl];exact(aa.mp e1).1
  have hi':i<N.vn.length:=aN hi F.np
  have e2:(N.vn.take np)[i]? =some N.vn[i]:=by rw[List.getElem?_take_of_lt hi];exact ae hi'
  exact⟨N.vn[i],x,ae hi',iC _ _ i _ _ (F.nd.sublist (List.take_sublist _ _)) e2 hx,rx⟩
 have:=hb C' ⟨rfl,rfl,λ _=>by refine aQ ok.fl λ l h1 _=>?_;exact⟨l,by show C.A.frames.map _=_;rw[h1];rfl⟩⟩ ⟨st,f_ vs n⟩ (by show b ⟨[],d,hn',kt'⟩ ⟨st,f_ vs n⟩≠_;rw[hq];exact hn) ρ {s with heap:=h'0,toks:=s.toks+(List.zip (N.vn.take np) xs).length} S'
 rw[show b C'.dn ⟨st,f_ vs n⟩=q from hq]at this
 exact this _ _ λ ρ' a h' tk' p S'' ra=>hQ ρ' a h' tk' p S''.rep ra
theorem qV (F:eQ G N np f fd body)(hb:fw G N b body){C:Cx}(ok:CxOk G C){d:Nat}(hd:d+1<=C.d){hn':Bool}(hhn:hn'=true->C.hn=true){kt':Nat->Option (List AV)}(hkt:∀i xs,kt' i=some xs->∃a,G.KT.tab i=some (a,xs)){B:Base}{ρ:List Addr}{st:List AO}{s:Shared}(hsz:G.h0.objs.size<=s.heap.objs.size)(hsm:B sysModules≠none)(hhb:∀a o,G.h0.get? a=some o->B a≠none)(hB:∀h,Kept B h->Kept C.B h)(hfl:lw B C.env.locals/\∀a,lw C.B a->lw B a)(R:Rep G.KT B ρ st s.heap)
  {vs:List AV} {xs:List Value} (hl:vs.length=np) (r:VRs G.KT ρ vs xs) {q:RF} (hq:b ⟨[],d,hn',kt'⟩ ⟨st,f_ vs n⟩=q) (hn:q≠.no) {E Q:Value->Shared->Prop}
  (hQ:∀ρ' a h' tk',ρ<+:ρ'->Rep G.KT B ρ' q.st.st h'->Rf G.KT ρ' q a->Q (match a with|.ret v=>v|_=>.none) {s with heap:=h',toks:=tk'}):
  wpAny (model G.prog G.w) C.A (call (.ref f) xs) Q E s:=
 wpAny_call (k6 F.toDefB hb ok hd hhn hkt hsz hsm hhb hB hfl R hl r (.of_eq (F.bind xs (by rw[← r.length,hl]))) hq hn λ ρ' a h' tk' p q ra=>hQ ρ' a h' tk' p q ra)
end
noncomputable def Base.add (B:Base)(a:Addr)(ob:Obj):Base:=λ x=>if x=a then some (.da ob.data)else B x
section
variable{KT:b4}{B:Base}{ρ:List Addr}{st:List AO}{h:Heap}{a:Addr}{ob:Obj}
theorem Kept.of_addB (hB:B a=none)(k:Kept (B.add a ob) h):Kept B h:=λ b o e=>k b o (by
 show(if b=a then some (BO.da ob.data)else B b)=some o
 rw[if_neg (λ q=>by rw[q,hB]at e;cases e)];exact e)
theorem qH {B:Base}{L:Addr}{oL:Obj}{es:Array DictEntry}{ep:Nat}(hd:oL.data= .dict es ep)(hB:B L=none):lw (B.add L oL) L/\∀a,lw B a->lw (B.add L oL) a:=by
 refine⟨⟨oL.data,if_pos rfl,λ vs q=>by rw[hd]at q;cases q⟩,λ a ⟨d,h1,h2⟩=>⟨d,?_,h2⟩⟩
 show(if a=L then _ else B a)=_
 rw[if_neg (λ z=>by rw[z,hB]at h1;cases h1)]
 exact h1
theorem Rep.addB (R:Rep KT B ρ st h)(ho:h.get? a=some ob)(hρ:a∉ρ):Rep KT (B.add a ob) ρ st h:=
 ⟨λ b o e=>by
   change (if b=a then some (BO.da ob.data)else B b)=some o at e
   split at e
   ·rename_i q;cases e;rw[q];exact⟨ob,ho,rfl⟩
   ·exact R.kept b o e,R.len,R.nd,λ b hb=>by
   show(if b=a then some (BO.da ob.data)else B b)=none
   rw[if_neg (λ q=>hρ (by rw[← q];exact hb))]
   exact R.off b hb,R.obj⟩
theorem Rep.dropB (R:Rep KT (B.add a ob) ρ st h)(hB:B a=none):Rep KT B ρ st h/\(∃o',h.get? a=some o'/\o'.data=ob.data)/\a∉ρ:=
 ⟨⟨R.kept.of_addB hB,R.len,R.nd,λ b hb=>by
   have e:=R.off b hb
   change (if b=a then some (BO.da ob.data)else B b)=none at e
   split at e
   ·cases e
   ·exact e,R.obj⟩,R.kept a (.da ob.data) (if_pos rfl),λ q=>by
   have e:=R.off a q
   change (if a=a then some (BO.da ob.data)else B a)=none at e
   rw[if_pos rfl]at e
   cases e⟩
end
section
variable{G:Gd}{N:Nm}{np n:Nat}{f:Addr}{fd:FuncData}{body:List Stmt}{b:SF}
theorem gO (F:eQ G N np f fd body)(hb:fw G N b body):SC G (cm np n b) (.ref f):=by
 intro C σ σ' vs v h ρ s xs r S E Q hQ
 refine ay h λ hl h=>?_
 have hl:vs.length=np:=aE hl
 rcases hd:C.d with _|d
 ·rw[show C.dn.d=0 from hd]at h;cases h
 rw[show C.dn.d=d+1 from hd]at h
 change (RF.rec (motive:=λ _=>RV) .no (λ σ'=>.ok .none ⟨σ'.st,σ.fr⟩) (λ _=>.no) (λ _=>.no) (λ v σ'=>.ok v ⟨σ'.st,σ.fr⟩) (b ⟨[],d,C.hn,C.kt⟩ ⟨σ.st,f_ vs n⟩):RV)= .ok v σ' at h
 refine aQ S.fr λ m hns hfr=>?_
 refine eX (id hns) λ oL es ep hoL hdL _=>?_
 have R':Rep G.KT (C.B.add C.env.locals oL) ρ σ.st s.heap:=S.rep.addB hoL S.Lρ
 have back:∀ρ' st' h',ρ<+:ρ'->Rep G.KT (C.B.add C.env.locals oL) ρ' st' h'->SR G C ρ' ⟨st',σ.fr⟩ h':=by
  intro ρ' st' h' p R'1
  refine fT (R'1.dropB S.ok.Lb) λ R'2 g hL=>?_
  refine⟨R'2,⟨m,jX hns hoL g,λ i v e=>?_⟩,hL,S.cells.mono p,S.ok⟩
  ·refine bR (hfr i v e) λ x v' c d r=>?_
   exact⟨x,v',c,d,r.mono p⟩
 generalize hq:b ⟨[],d,C.hn,C.kt⟩ ⟨σ.st,f_ vs n⟩=q at h
 refine qV F hb S.ok (d:=d) (by exact ω7 hd) (hn':=C.hn) id (kt':=C.kt) S.ok.ktok (Nat.le_trans S.ok.ab (Nat.le_of_lt S.lnlt)) (by
  show(if sysModules=C.env.locals then some (BO.da oL.data)else C.B sysModules)≠none
  split<;>first|exact S.ok.sm|nofun) (λ b o e=>by
  show(if b=C.env.locals then some (BO.da oL.data)else C.B b)≠none
  split<;>first|exact S.ok.h0B b o e|nofun) (λ h k=>k.of_addB S.ok.Lb) (qH hdL S.ok.Lb) R' hl r hq (λ e=>by rw[e]at h;cases h) λ ρ' a h' tk' p R'1 ra=>?_
 have S'1:=back ρ' _ h' p R'1
 cases q with
 |no=>cases h
 |br=>cases h
 |ct=>cases h
 |nx σ1=>
  cases h
  cases ra
  exact hQ ρ' _ h' tk' p S'1 rfl
 |rt w σ1=>
  cases h
  refine aQ ra λ x z1_ rx=>?_;clear ra;subst z1_
  exact hQ ρ' _ h' tk' p S'1 rx
noncomputable def jz (C:Cx)(b:Addr):Prop:=b≠C.env.locals/\∀d,C.B b≠some (.da d)
theorem SR.extF {C:Cx}{ρ:List Addr}{σ:AS}{h h':Heap}(S:SR G C ρ σ h)(h1:∀b o,jz C b->h.get? b=some o->h'.get? b=some o)(h2:∀b o,¬jz C b->h.get? b=some o->∃o',h'.get? b=some o'/\o'.data=o.data):SR G C ρ σ h':=by
 have hρ:∀a∈ρ,jz C a:=λ a ha=>⟨λ q=>S.Lρ (q▸ha),λ d q=>(by rw[S.rep.off a ha]at q;cases q)⟩
 refine⟨⟨λ b x e=>?_,S.rep.len,S.rep.nd,S.rep.off,λ i a o e1 e2=>?_⟩,?_,S.Lρ,S.cells,S.ok⟩
 ·have k:=S.rep.kept b x e
  cases x with
  |ex o=>exact h1 b o ⟨λ q=>(by rw[q,S.ok.Lb]at e;cases e),λ d q=>(by rw[e]at q;cases q)⟩ k
  |da d=>
   refine aQ k λ o k1 k2=>?_
   refine aQ (h2 b o (λ z=>z.2 d e) k1) λ o' q1 q2=>?_
   exact⟨o',q1,q2.trans k2⟩
  |no=>exact k
 ·refine aQ (S.rep.obj i a o e1 e2) λ ob e r=>?_
  exact⟨ob,h1 a ob (hρ a (ac e1)) e,r⟩
 ·refine aQ S.fr λ m hn hm=>?_
  refine kY (id hn) λ oL es ep hoL _=>?_
  exact⟨m,jX hn hoL (h2 _ oL (λ z=>z.1 rfl) hoL),hm⟩
open Classical in
noncomputable def ch (C:Cx)(h:Heap):Base:=λ a=>match h.get? a with
 |none=>if a=sysModules then some .no else none
 |some o=>if jz C a then some (.ex o)else some (.da o.data)
noncomputable def flat (v:AV):Bool:=match v with
 |.ref _=>false
 |_=>true
theorem VR.flat {KT:b4}{ρ ρ':List Addr}{v:AV}{x:Value}(h:flat v=true)(r:VR KT ρ v x):VR KT ρ' v x:=by
 cases v<;>first|exact r|cases h
theorem VRs.flat {KT:b4}{ρ ρ':List Addr}{vs:List AV}{xs:List Value}(h:vs.all flat=true)(r:VRs KT ρ vs xs):VRs KT ρ' vs xs:=by
 induction r with
 |nil=>exact .nil
 |cons a _ ih=>
  rw[List.all_cons,Bool.and_eq_true]at h
  exact .cons (a.flat h.1) (ih h.2)
noncomputable def gz (d0:Nat)(g:List AV->Option AV):CF:=λ D vs σ=>bb D.hn (bb (Nat.ble (Nat.succ d0) D.d) (Op.b (g vs) .no λ v=>.ok v σ) .no) .no
theorem qn (F:eQ G N np f fd body)(hb:fw G N b body){d0:Nat}{kt':Nat->Option (List AV)}(hkt:∀i xs,kt' i=some xs->∃a,G.KT.tab i=some (a,xs)){g:List AV->Option AV}
  (hg:∀vs v,g vs=some v->vs.length=np/\vs.all flat=true/\flat v=true/\∃σ',b ⟨[],d0,true,kt'⟩ ⟨[],f_ vs n⟩= .rt v σ'):SC G (gz d0 g) (.ref f):=by
 intro C σ σ' vs v h ρ s xs r S E Q hQ
 refine ay h λ hn h=>?_
 refine ay h λ hd h=>?_
 refine Op.elim h λ w hw h=>?_
 cases h
 refine eAAAE (hg _ _ hw) λ hl hf hv σ1 hq=>?_
 have bEx:∀b o,jz C b->s.heap.get? b=some o->ch C s.heap b=some (.ex o):=λ b o z e=>by unfold ch;rw[e];exact if_pos z
 have bDa:∀b o,¬jz C b->s.heap.get? b=some o->ch C s.heap b=some (.da o.data):=λ b o z e=>by unfold ch;rw[e];exact if_neg z
 have bNo:∀b o,s.heap.get? b=some o->ch C s.heap b≠none:=λ b o e q=>by
  by_cases z:jz C b
  ·rw[bEx b o z e]at q;cases q
  ·rw[bDa b o z e]at q;cases q
 have bOf:∀b x,ch C s.heap b=some x->x.ok b (s.heap.get? b):=λ b x e=>by
  unfold ch at e
  split at e
  ·split at e
   ·rename_i q;cases e;exact q
   ·cases e
  ·rename_i o ho
   split at e
   ·cases e;exact ho
   ·cases e;exact⟨o,ho,rfl⟩
 have R:Rep G.KT (ch C s.heap) [] [] s.heap:=⟨bOf,rfl,List.nodup_nil,λ a ha=>by simp at ha,λ i a o e=>by simp at e⟩
 refine aQ S.fr λ m hns _=>?_
 refine eX (id hns) λ oL es ep hoL hdL _=>?_
 have hkept:∀h,Kept (ch C s.heap) h->Kept C.B h:=λ h k b x e=>by
  have q:=S.rep.kept b x e
  cases x with
  |ex o=>exact k b _ (bEx b o ⟨λ z=>(by rw[z,S.ok.Lb]at e;cases e),λ d z=>(by rw[e]at z;cases z)⟩ q)
  |da d=>
   refine aQ q λ o q1 q2=>?_
   refine aQ (k b _ (bDa b o (λ z=>z.2 d e) q1)) λ o' q3 q4=>?_
   exact⟨o',q3,q4.trans q2⟩
  |no=>exact q
 refine qV F hb S.ok (d:=d0) (bA hd) (hn':=true) (λ _=>hn) hkt (Nat.le_trans S.ok.ab (Nat.le_of_lt S.lnlt)) (by
  intro q
  unfold ch at q
  split at q
  ·rw[if_pos rfl]at q;cases q
  ·split at q<;>cases q) (λ b o e q=>bNo _ _ (S.ok.b0 _ S.rep.kept b o e) q) hkept ⟨⟨oL.data,bDa _ _ (λ z=>z.1 rfl) hoL,λ vs q=>(by rw[hdL]at q;cases q)⟩,λ a ⟨d,q1,q2⟩=>by
   refine aQ (S.rep.kept a _ q1) λ o q3 q4=>?_
   exact⟨o.data,bDa _ _ (λ z=>z.2 d q1) q3,by rw[q4];exact q2⟩⟩ R hl (r.flat hf) hq nofun λ ρ' a h' tk' p R'1 ra=>?_
 refine aQ ra λ x z1_ rx=>?_;clear ra;subst z1_
 exact hQ ρ x h' tk' (ah _) (S.extF (λ b o z e=>R'1.kept b _ (bEx b o z e)) λ b o z e=>R'1.kept b _ (bDa b o z e)) (rx.flat hv)
end
section
variable{G:Gd}{N:Nm}
theorem gy {op:CmpOp}{g:Int->Int->Bool}{a b:EF}(hg:∀m n,cmpI op m n=some (g m n)):∀D σ c σ',cK g a b D σ= .ok c σ'->∃x y σ1,a D σ= .ok x σ1/\b D σ1= .ok y σ'/\∀(C:Cx) (ρ:List Addr) (s:Shared) (u v:Value),SR G C ρ σ' s.heap->VR G.KT ρ x u->VR G.KT ρ y v->jS G C ρ (compareOp op u v) s (.bool c) σ':=by
 intro D σ c σ' h
 refine RV.elim h λ x σ1 h1 h=>?_
 refine RV.elim h λ y σ2 h2 h=>?_
 refine AV.i_elim h λ m hm h=>?_
 refine AV.i_elim h λ n hn h=>?_
 subst hm hn
 cases h
 exact⟨_,_,_,h1,h2,λ C ρ s u v S ru rv=>j1 S (hg m n) ru rv⟩
theorem gx {a b:EF}:∀D σ c σ',l8 a b D σ= .ok c σ'->∃x y σ1,a D σ= .ok x σ1/\b D σ1= .ok y σ'/\∀(C:Cx) (ρ:List Addr) (s:Shared) (u v:Value),SR G C ρ σ' s.heap->VR G.KT ρ x u->VR G.KT ρ y v->jS G C ρ (compareOp .Eq u v) s (.bool c) σ':=by
 intro D σ c σ' h
 refine RV.elim h λ x σ1 h1 h=>?_
 refine RV.elim h λ y σ2 h2 h=>?_
 cases x with
 |int m=>
  refine AV.i_elim (show y.i RB.no (λ n=>RB.ok (m == n) σ2)=_ from h) λ n hn h=>?_
  subst hn
  cases h
  exact⟨_,_,_,h1,h2,λ C ρ s u v S ru rv=>j1 S rfl ru rv⟩
 |str l=>
  refine AV.s_elim (show y.s RB.no (λ r=>RB.ok (si l r) σ2)=_ from h) λ r hr h=>?_
  subst hr
  cases h
  exact⟨_,_,_,h1,h2,λ C ρ s u v S ru rv=>wF S rfl ru rv⟩
 |none=>cases h
 |bool=>cases h
 |ref=>cases h
 |kt=>cases h
inductive Ty where
 |str|list|dict|set|tuple
noncomputable def Ty.nm:Ty->String
 |.str=>"str"|.list=>"list"|.dict=>"dict"|.set=>"set"|.tuple=>"tuple"
noncomputable def tyO (t:Ty)(o:AO):Bool:=AO.casesOn (motive:=λ _=>Bool) o false (λ _=>Ty.casesOn (motive:=λ _=>Bool) t false true false false false) (λ _=>Ty.casesOn (motive:=λ _=>Bool) t false false false false true) (λ _ _ _=>false) (λ _=>false) (λ _ _ _=>Ty.casesOn (motive:=λ _=>Bool) t false false true false false) (λ _ _=>Ty.casesOn (motive:=λ _=>Bool) t false false false true false) (λ _ _ _=>false) (λ _ _ _=>false) (λ _ _=>false) (λ _=>false) (λ _=>false)
noncomputable def iD (t:Ty)(o:AV)(st:List AO):Bool:=AV.casesOn (motive:=λ _=>Bool) o false (λ _=>false) (λ _=>false) (λ _=>Ty.casesOn (motive:=λ _=>Bool) t true false false false false) (λ r=>Op.b (cy st r) false λ o=>tyO t o) (λ _=>false)
theorem mn {t:Ty}{r:Nat}{st:List AO}{o:AO}(h:st[r]? =some o):iD t (.ref r) st=tyO t o:=by
 show Op.b (cy st r) false (λ o=>tyO t o)=_
 rw[aS,h]
 rfl
theorem ty0 {t:Ty}(h:(Ty.casesOn (motive:=λ _=>Bool) t true false false false false)=true):t= .str:=by cases t<;>first|rfl|cases h
theorem ty1 {t:Ty}(h:(Ty.casesOn (motive:=λ _=>Bool) t false true false false false)=true):t= .list:=by cases t<;>first|rfl|cases h
theorem ty2 {t:Ty}(h:(Ty.casesOn (motive:=λ _=>Bool) t false false true false false)=true):t= .dict:=by cases t<;>first|rfl|cases h
theorem ty3 {t:Ty}(h:(Ty.casesOn (motive:=λ _=>Bool) t false false false true false)=true):t= .set:=by cases t<;>first|rfl|cases h
theorem ty4 {t:Ty}(h:(Ty.casesOn (motive:=λ _=>Bool) t false false false false true)=true):t= .tuple:=by cases t<;>first|rfl|cases h
theorem DR.shape {KT:b4}{ρ:List Addr}{K:Type}[DecidableEq K] {knd:PySem.KeyKind KT.prog KT.w K}{enc:K->AV}{kvs:List (AV×AV)}{ep:Nat}{ob:Obj}(r:DR KT ρ knd enc kvs ep ob):ob.cls= .type "dict"/\ob.dict=none:=by
 refine ez r λ es xs a _=>?_
 exact⟨a.1,a.2.1⟩
theorem p5 {C:Cx}{ρ:List Addr}{σ:AS}{s:Shared}{t:Ty}{o:AV}{x:Value}(S:SR G C ρ σ s.heap)(e:iD t o σ.st=true)(r:VR G.KT ρ o x):
  s.TypeIs x t.nm/\∀a,x= .ref a->∃ob,s.heap.get? a=some ob/\ob.dict=none:=by
 cases o with
 |str l=>
  refine eE r λ _ z1_=>?_
  rw[ty0 e,z1_]
  exact⟨rfl,λ a q=>by cases q⟩
 |ref i=>
  refine Op.elim e λ o hst e=>?_
  rw[aS]at hst
  refine aQ r λ a ha z1_=>?_
  rw[z1_]
  have g:∀{ob1:Obj},s.heap.get? a=some ob1->ob1.cls= .type t.nm/\ob1.dict=none->s.TypeIs (.ref a) t.nm/\∀b,Value.ref a= .ref b->∃ob,s.heap.get? b=some ob/\ob.dict=none:=λ h k=>⟨⟨_,h,k.1⟩,λ b q=>by cases q;exact⟨_,h,k.2⟩⟩
  refine aQ (S.obj ha hst) λ ob1 ho1 r1=>?_
  cases o with
  |list xs=>
   refine g ho1 ?_
   rw[ty1 e]
   exact ez r1 λ vs n q _=>by rw[q];exact⟨rfl,rfl⟩
  |tup xs=>
   refine g ho1 ?_
   rw[ty4 e]
   exact ez r1 λ vs n q _=>by rw[q];exact⟨rfl,rfl⟩
  |dict kd kvs ep=>
   refine g ho1 ?_
   rw[ty2 e]
   cases kd with
   |true=>exact DR.shape (show DR G.KT ρ (PySem.strKind G.KT.prog G.KT.w) kT kvs ep ob1 from r1)
   |false=>exact DR.shape (show DR G.KT ρ (PySem.intKind G.KT.prog G.KT.w) AV.int kvs ep ob1 from r1)
  |set kd xs=>
   rw[ty3 e]
   cases kd with
   |true=>exact bR ((show sb (PySem.strKind G.KT.prog G.KT.w) kT xs ob1 from r1)) λ T n h1 h2 _=>⟨(h1.setOf ho1 h2).typeIs,(h1.setOf ho1 h2).noDict⟩
   |false=>exact bR ((show sb (PySem.intKind G.KT.prog G.KT.w) AV.int xs ob1 from r1)) λ T n h1 h2 _=>⟨(h1.setOf ho1 h2).typeIs,(h1.setOf ho1 h2).noDict⟩
  |_=>cases e
 |_=>cases e
noncomputable abbrev MF:=Dn->AV->List AV->AS->RV
structure SM (G:Gd) (m:MF) (t:Ty) (name:Str) (id:String):Prop where
 pa:PlainAttrs t.nm
 slot:Slot t.nm name id
 ty:typeOf (.builtin id)=pure (.type "method_descriptor")
 run:∀(C:Cx) (σ σ':AS) (o:AV) (vs:List AV) (v:AV),m C.dn o vs σ= .ok v σ'->∀(ρ:List Addr) (s:Shared) (x:Value) (xs:List Value),VR G.KT ρ o x->VRs G.KT ρ vs xs->SR G C ρ σ s.heap->jS G C ρ (call (.builtin id) (x::xs)) s v σ'
noncomputable def cc (t:Ty)(m:MF)(a:EF)(l:LF):EF:=λ D σ=>(a D σ).b .no λ o σ1=>bb (iD t o σ1.st) ((l D σ1).b .no λ vs σ2=>m D o vs σ2) .no
noncomputable def iB (t:Ty)(m:MF)(a:EF):EF:=λ D σ=>(a D σ).b .no λ o σ1=>bb (iD t o σ1.st) (m D o [] σ1) .no
theorem dh {t:Ty}{m:MF}{name:Str}{id:String}{a:EF}{l:LF}{e f:PySem.Expr}{es:List PySem.Expr}{apos pos:Pos}(hm:SM G m t name id)(ha:SE G N a e)(hl:SL G N l (f::es))(he:fA f)(hp:kx (f::es))
  (hbase:∀env,attributeBase e name env (eval e env)=eval e env) (hline:(apos.endLine == pos.line)=true)
  (hfew:∀env,((backTo pos (starEach (f::es) env)).all (λ x=>!x.1) && (backToKw pos (keywordEach [] env)).all (λ x=>x.1.isSome) && decide ((f::es).length+([]:List Keyword).length+(if([]:List Keyword).isEmpty then 0 else 1)<30))=true):
  SE G N (cc t m a l) (.Call (.Attribute e name apos) (f::es) [] pos):=by
 intro C hC σ σ' v h ρ s S
 refine RV.elim h λ o σ1 h1 h=>?_
 refine ay h λ ht h=>?_
 refine RS.elim h λ vs σ2 h2 h=>?_
 intro E Q hQ
 refine wpAny_Call_method_lateS (hbase _) (hfew _) hline (ha C hC _ _ _ h1 ρ s S E _ λ ρ1 u t'1 k'1 p'1 S'1 r'1=>?_)
 refine eA (p5 (s:=⟨t'1,s.gens,s.drawn,k'1,s.os⟩) S'1 ht r'1) λ q1 q2=>?_
 refine⟨t.nm,id,hm.pa,hm.slot,hm.ty,q1,q2,callWith_builtin (hp _ _) ?_⟩
 have hl':=hl C hC _ _ _ h2 ρ1 ⟨t'1,s.gens,s.drawn,k'1,s.os⟩ pos S'1 E
 rw[he]at hl' ⊢
 refine evalArgs_plain (hl' _ λ ρ2 w t'2 k'2 p'2 S'2 r'2=>?_)
 exact hm.run C _ _ _ _ _ h ρ2 ⟨t'2,s.gens,s.drawn,k'2,s.os⟩ u w (r'1.mono p'2) r'2 S'2 E Q λ ρ3 a t'3 k'3 p'3 S3 r'3=>hQ ρ3 a t'3 k'3 (p'1.trans (p'2.trans p'3)) S3 r'3
theorem ia {t:Ty}{m:MF}{name:Str}{id:String}{a:EF}{e:PySem.Expr}{apos pos:Pos}(hm:SM G m t name id)(ha:SE G N a e)
  (hbase:∀env,attributeBase e name env (eval e env)=eval e env) (hline:(apos.endLine == pos.line)=true):SE G N (iB t m a) (.Call (.Attribute e name apos) [] [] pos):=by
 intro C hC σ σ' v h ρ s S
 refine RV.elim h λ o σ1 h1 h=>?_
 refine ay h λ ht h=>?_
 intro E Q hQ
 refine wpAny_Call_method_lateS (hbase _) rfl hline (ha C hC _ _ _ h1 ρ s S E _ λ ρ1 u t'1 k'1 p'1 S'1 r'1=>?_)
 refine eA (p5 (s:=⟨t'1,s.gens,s.drawn,k'1,s.os⟩) S'1 ht r'1) λ q1 q2=>?_
 refine⟨t.nm,id,hm.pa,hm.slot,hm.ty,q1,q2,callWith_builtin rfl (evalArgs_nil3 ?_)⟩
 exact hm.run C _ _ _ _ _ h ρ1 ⟨t'1,s.gens,s.drawn,k'1,s.os⟩ u [] r'1 .nil S'1 E Q λ ρ3 a t'3 k'3 p'3 S3 r'3=>hQ ρ3 a t'3 k'3 (p'1.trans p'3) S3 r'3
noncomputable def ji (l:List Nat):Bool:=List.rec (motive:=λ _=>Bool) true (λ c _ ih=>bb (Nat.ble 33 c) (bb (Nat.ble c 126) (bb (Nat.ble c 64) ih (bb (Nat.ble 91 c) ih false)) false) false) l
theorem rD:∀{l:List Nat},ji l=true->∀c∈l,33<=c/\c<127/\(c<65∨90<c):=by
 intro l
 induction l with
 |nil=>intro _ c hc;simp at hc
 |cons a l ih=>
  intro h
  change bb (Nat.ble 33 a) (bb (Nat.ble a 126) (bb (Nat.ble a 64) (ji l) (bb (Nat.ble 91 a) (ji l) false)) false) false=true at h
  refine ay h λ h1 h=>?_
  refine ay h λ h2 h=>?_
  have h1:=bA h1
  have h2:=bA h2
  have h3:(a<65∨90<a)/\ji l=true:=by
   rcases q:Nat.ble a 64 with _|_
   ·rw[q]at h
    refine ay (show bb (Nat.ble 91 a) (ji l) false=true from h) λ h3 h=>?_
    have h3:=bA h3
    exact⟨.inr (by exact ω8 h3),h⟩
   ·rw[q]at h
    have h3:=bA q
    exact⟨.inl (by exact ω9 h3),h⟩
  intro c hc
  rcases List.mem_cons.mp hc with rfl|hc
  ·exact⟨h1,by exact ω10 h2,h3.1⟩
  ·exact ih h3.2 c hc
noncomputable def pv:MF:=λ D o vs σ=>o.s .no λ l=>bb (Nat.ble l.length 1000) (bb (ji l) (List.rec (motive:=λ _=>RV) (.ok (.str l) σ) (λ _ _ _=>.no) vs) .no) .no
theorem nP:SM G pv .str "lower" "str.lower":=by
 refine⟨F.plainAttrs_str,F.slot_str_lower,F.type_str_lower,?_⟩
 intro C σ σ' o vs v h ρ s x xs r rs S E Q hQ
 refine AV.s_elim h λ l hl h=>?_
 subst hl
 refine ay h λ h1 h=>?_
 refine ay h λ h2 h=>?_
 cases rs with
 |nil=>
  cases h
  refine eE r λ t z1_=>?_;clear r;subst z1_
  have h1:=bA h1
  refine KXs.lower_K (x:=⟨l.toArray⟩) (λ c hc=>rD h2 c (by simpa using hc)) (by show l.toArray.size<=_;simp;exact ω11 h1) λ t' k=>?_
  exact hQ ρ _ s.heap k (ah _) S ⟨t',rfl⟩
 |cons=>cases h
end
noncomputable def qx (h'0:Heap)(L:Addr)(h:Heap):List (Addr×Obj):=
 (List.range h.objs.size).filterMap λ a=>if a=L then none else match h'0.get? a with
  |some _=>none
  |none=>match h.get? a with
   |some o=>some (a,o)
   |none=>none
theorem mO {h'0:Heap}{L:Addr}{h:Heap}{a:Addr}{o:Obj}:(a,o)∈qx h'0 L h↔a≠L/\h'0.get? a=none/\h.get? a=some o:=by
 unfold qx
 rw[List.mem_filterMap]
 constructor
 ·rintro⟨b,hb,e⟩
  split at e
  ·cases e
  ·rename_i hbL
   split at e
   ·cases e
   ·rename_i h0
    split at e
    ·rename_i ob ho
     cases e
     exact⟨hbL,h0,ho⟩
    ·cases e
 ·rintro⟨h1,h2,h3⟩
  refine⟨a,by rw[List.mem_range];exact Heap.lt_size h3,?_⟩
  rw[if_neg h1,h2,h3]
theorem nZ (h'0:Heap)(L:Addr)(h:Heap):News h'0 L h (qx h'0 L h):=λ p hp=>by
 obtain⟨a,o⟩:=p
 refine fT (mO.mp hp) λ h1 h2 h3=>?_
 exact⟨h3,h1,h2⟩
section
variable{G:Gd}{C:Cx}{ρ:List Addr}{σ:AS}{h h':Heap}
theorem SR.fr' (S:SR G C ρ σ h):∃m,Fr G.h0 C.env.locals h m/\∀(i:Nat) (v:AV),σ.fr[i]? =some (some v)->∃x v',C.nms[i]? =some x/\m x=some v'/\VR G.KT ρ v v':=by
 refine aQ S.fr λ m hn hm=>?_
 exact⟨m,⟨hn,S.ok.b0 h S.rep.kept,S.ok.ab⟩,hm⟩
end
theorem lR {h'0:Heap}{L:Addr}{h:Heap}{a:Addr}{o:Obj}(hm:(a,o)∈qx h'0 L h):∃pre post,qx h'0 L h=pre++(a,o)::post:=by
 refine vf (List.append_of_mem hm) λ pre post e=>?_
 exact⟨pre,post,e⟩
theorem rN (h'0:Heap)(L:Addr)(h:Heap):((qx h'0 L h).map (·.1)).Nodup:=by
 unfold qx
 have:∀l:List Nat,l.Nodup->((l.filterMap λ a=>if a=L then none else match h'0.get? a with
  |some _=>none
  |none=>match h.get? a with
   |some o=>some (a,o)
   |none=>none).map (·.1)).Nodup:=by
  intro l
  induction l with
  |nil=>intro _;simp
  |cons a l ih=>
   intro hn
   rw[List.nodup_cons]at hn
   rw[List.filterMap_cons]
   split
   ·exact ih hn.2
   ·rename_i p e
    rw[bg,List.nodup_cons]
    refine⟨λ hm=>hn.1 ?_,ih hn.2⟩
    refine aQ (List.mem_map.mp hm) λ q hq e2=>?_
    refine aQ (List.mem_filterMap.mp hq) λ b hb e3=>?_
    have g:∀(c:Nat) (r:Addr×Obj),(if c=L then none else match h'0.get? c with
      |some _=>none
      |none=>match h.get? c with
       |some o=>some (c,o)
       |none=>none)=some r->r.1=c:=by
     intro c r e
     split at e
     ·cases e
     ·split at e
      ·cases e
      ·split at e
       ·cases e;rfl
       ·cases e
    rw[show a=b from(g _ _ e).symm.trans (e2.symm.trans (g _ _ e3))]
    exact hb
 exact this _ List.nodup_range
theorem lS {h'0:Heap}{L:Addr}{h:Heap}{a:Addr}{o:Obj}{pre post:List (Addr×Obj)}(e:qx h'0 L h=pre++(a,o)::post):(∀p∈pre,p.1≠a)/\∀p∈post,p.1≠a:=by
 have hn:=rN h'0 L h
 rw[e,List.map_append,bg,List.nodup_append]at hn
 refine fT hn λ n1 n2 n3=>?_
 rw[List.nodup_cons]at n2
 exact⟨λ p hp q=>n3 _ (List.mem_map_of_mem hp) a (by simp) q,λ p hp q=>n2.1 (by rw[← q];exact List.mem_map.mpr ⟨p,hp,rfl⟩)⟩
section
variable{G:Gd}{C:Cx}{ρ:List Addr}{σ:AS}{h h':Heap}
theorem SR.updK (S:SR G C ρ σ h){m:Str->Option Value}(F:Fr G.h0 C.env.locals h m)(hm:∀(i:Nat) (v:AV),σ.fr[i]? =some (some v)->∃x v',C.nms[i]? =some x/\m x=some v'/\VR G.KT ρ v v')
  (F':Fr G.h0 C.env.locals h' m) {i:Nat} {a:Addr} {ob ob':Obj} {pre post:List (Addr×Obj)} (ha:ρ[i]? =some a) (e:qx G.h0 C.env.locals h=pre++(a,ob)::post) (N:News G.h0 C.env.locals h' (pre++(a,ob')::post))
  {o:AO} (r:OR G.KT ρ o ob'):SR G C ρ ⟨σ.st.set i o,σ.fr⟩ h':=by
 have hmem:=ac ha
 have key:∀b x,b≠C.env.locals->b≠a->h.get? b=some x->h'.get? b=some x:=by
  intro b x hb hba eb
  cases q:G.h0.get? b with
  |none=>
   have hl:=mO.mpr ⟨hb,q,eb⟩
   rw[e]at hl
   refine(N (b,x) ?_).1
   rcases bn.mp hl with hl|hl
   ·exact List.mem_append_left _ hl
   ·rcases List.mem_cons.mp hl with hl|hl
    ·cases hl;exact absurd rfl hba
    ·exact List.mem_append_right _ (ar _ hl)
  |some o'=>
   have e1:=F.keep b o' q
   rw[eb]at e1
   cases e1
   exact F'.keep b x q
 have hx:=(N (a,ob') (by simp)).1
 have hL:a≠C.env.locals:=λ q=>S.Lρ (q▸hmem)
 refine⟨⟨λ b y eb=>(S.rep.kept b y eb).mono λ x=>key b x (λ q=>by rw[q,S.ok.Lb]at eb;cases eb) (λ q=>by rw[q,S.rep.off a hmem]at eb;cases eb),by simp[S.rep.len],S.rep.nd,S.rep.off,?_⟩,⟨m,F'.ns,hm⟩,S.Lρ,S.cells,S.ok⟩
 intro j b o' e1 e2
 by_cases hij:i=j
 ·subst hij
  have:b=a:=aj (e1.symm.trans ha)
  subst this
  have hl:i<σ.st.length:=S.rep.len▸(aa.mp ha).1
  rw[aH hl]at e2
  cases e2
  exact⟨ob',hx,r⟩
 ·rw[ak hij]at e2
  refine aQ (S.rep.obj j b o' e1 e2) λ ob1 e3 r1=>?_
  refine⟨ob1,key b ob1 (λ q=>S.Lρ (q▸ac e1)) (λ q=>hij ?_) e3,r1⟩
  subst q
  exact dX S.rep.nd ha e1
theorem SR.inLed (S:SR G C ρ σ h){i:Nat}{a:Addr}{ob:Obj}(ha:ρ[i]? =some a)(e:h.get? a=some ob)(hn:G.h0.get? a=none):(a,ob)∈qx G.h0 C.env.locals h:=
 mO.mpr ⟨λ q=>S.Lρ (q▸ac ha),hn,e⟩
end
section
variable{prog:Program}{w:World}{A:Around}{E:Value->Shared->Prop}{s:Shared}{K:Type}[DecidableEq K] {knd:PySem.KeyKind prog w K}
theorem yp {d:Addr}{xs:List (K×Value)}{ep:Nat}{k:K}{key v:Value}{Q:Unit->Shared->Prop}(hkey:knd.is k key=true)(hm:s.heap.DictAt knd d xs ep)(hz:xs.length<=sizeLine)
  (h1:valueAt xs k≠none->∀h',h'.DictAt knd d (xs.map λ kv=>if kv.1=k then(kv.1,v)else kv) ep->Heap.SameBut d s.heap h'->Q () {s with heap:=h',toks:=s.toks+1})
  (h2:valueAt xs k=none->∀h',h'.DictAt knd d (xs++[(k,v)]) (ep+1)->Heap.SameBut d s.heap h'->Q () {s with heap:=h',toks:=s.toks+1}):
  wpAny (model prog w) A (dictSet d key v) Q E s:=by
 refine dB hm λ o es ho hc hd hk hp hn=>?_
 have hes:es.size<=sizeLine:=by
  have e1:=hp.length
  rw[Array.length_toList]at e1
  exact ω12 e1 hz
 have hi:(es.findIdx? λ e=>knd.is k e.key)=xs.findIdx? λ kv=>decide (kv.1=k):=by
  rw[← hp.findIdx k]
  obtain⟨l⟩:=es
  simp
 have hval:valueAt xs k=none↔(xs.findIdx? λ kv=>decide (kv.1=k))=none:=by
  unfold valueAt
  rw[Option.map_eq_none_iff,List.find?_eq_none,List.findIdx?_eq_none_iff]
  simp
 unfold dictSet
 refine wpAny_holding (wpAny_bind (knd.pyHash hkey ?_))
 unfold dictSetHashed
 refine wpAny_holding (wpAny_bind (wpAny_dictFind_of (s:={s with toks:=s.toks+1}) hkey ho hd hk ?_))
 rcases q:es.findIdx? λ e=>knd.is k e.key with _|i
 ·have hv:valueAt xs k=none:=hval.mpr (hi▸q)
  have hnot:k∉xs.map (·.1):=λ hm=>by
   refine aQ (List.mem_map.mp hm) λ kv h3 h4=>?_
   have h5:=List.findIdx?_eq_none_iff.mp (hi▸q) kv h3
   simp[h4]at h5
  rw[q]
  refine wpAny_bind (wpAny_rule ?_)
  refine wpAny_updateDictKeys (s:={s with toks:=s.toks+1}) ho hd (h2 hv _ ⟨_,_,Heap.get?_update_self _ ho (Obj.isFreed_of_dict (Obj.data_mapDictKeys hd _)),hc.mapDictKeys _,Obj.data_mapDictKeys hd _,hk.push hkey _,?_,?_⟩ (bq ..)) (hz:=hes) (hf:=Nat.le_of_eq (Array.size_push ..))
  ·have:=hp.append hkey (knd.hash k) v
   rwa [Array.toList_push]
  ·rw[List.map_append,List.nodup_append]
   exact⟨hn,by simp,λ a ha b hb e=>hnot (by simp at hb;rw[← hb,← e];exact ha)⟩
 ·have hv:valueAt xs k≠none:=λ e=>by
   have:=hval.mp e
   rw[← hi,q]at this
   cases this
  rw[q]
  refine wpAny_bind (wpAny_rule (wpAny_bind ?_))
  refine wpAny_updateDict (s:={s with toks:=s.toks+1}) ho hd (wpAny_point (h1 hv _ ⟨_,_,Heap.get?_update_self _ ho (Obj.isFreed_of_dict (Obj.data_mapDict hd _)),hc.mapDict _,Obj.data_mapDict hd _,hk.modify _ _,?_,?_⟩ (bq ..))) (hz:=Nat.le_of_eq Array.size_modify)
  ·have q':(es.toList.findIdx? λ e=>knd.is k e.key)=some i:=by
    rw[← q]
    obtain⟨l⟩:=es
    simp
   have:=hp.modify hn q' v
   rwa [Array.toList_modify]
  ·rw[List.map_map]
   have:((λ x:K×Value=>x.1)∘λ kv=>if kv.1=k then(kv.1,v)else kv)=λ x=>x.1:=by
    funext kv
    show(if kv.1=k then(kv.1,v)else kv).1=kv.1
    split<;>rfl
   rw[this]
   exact hn
theorem o6 {d:Addr}{xs:List (K×Value)}{ep:Nat}{k:K}{key v:Value}{Q:Unit->Shared->Prop}(hkey:knd.is k key=true)(hm:s.heap.DictAt knd d xs ep)(hz:xs.length<=sizeLine)
  (h1:valueAt xs k≠none->∀h',h'.DictAt knd d (xs.map λ kv=>if kv.1=k then(kv.1,v)else kv) ep->Heap.SameBut d s.heap h'->Q () {s with heap:=h',toks:=s.toks+1})
  (h2:valueAt xs k=none->∀h',h'.DictAt knd d (xs++[(k,v)]) (ep+1)->Heap.SameBut d s.heap h'->Q () {s with heap:=h',toks:=s.toks+1}):
  wpAny (model prog w) A (setItem (.ref d) key v) Q E s:=by
 have hT:s.TypeIs (.ref d) "dict":=hm.dictOf.typeIs
 unfold setItem
 refine wpAny_holding ?_
 refine wpAny_bind (wpAny_sequenceKey hT (by decide) ?_)
 refine wpAny_bind (wpAny_callSpecial?_slot (name:=Str.ofString "__setitem__") hT slot_dict_setitem (wpAny_call_entry slot_dict_setitem hT entry_dict_setitem ?_ (args_dict_setitem _ _ _)))
 show wpAny _ _ (Builtin.Dict.notOrdered "__setitem__" ⟨[.ref d,key,v],[]⟩ >>= _) _ _ s
 refine wpAny_bind (wpAny_notOrdered_dict hT ?_)
 show wpAny _ _ (dictSet d key v >>= _) _ _ s
 exact wpAny_bind (yp hkey hm hz (λ e h' a b=>wpAny_pure ⟨.none,rfl,wpAny_pure (h1 e h' a b)⟩) λ e h' a b=>wpAny_pure ⟨.none,rfl,wpAny_pure (h2 e h' a b)⟩)
end
inductive DV (KT:b4) (ρ:List Addr) (kd:Bool) (kvs:List (AV×AV)) (ep:Nat) (key:AV) (y:Value) (h:Heap) (a:Addr):Prop
 |mk {K:Type} [DecidableEq K] (knd:PySem.KeyKind KT.prog KT.w K) (enc:K->AV) (D:KD KT knd enc) (k:K) (xs:List (K×Value)) (e:enc k=key) (hk:knd.is k y=true) (hd:h.DictAt knd a xs ep) (hr:KVR KT ρ enc kvs xs)
   (back:∀(kvs':List (AV×AV)) (xs':List (K×Value)) (ep':Nat) (h':Heap) (ρ':List Addr),h'.DictAt knd a xs' ep'->KVR KT ρ' enc kvs' xs'->∃ob,h'.get? a=some ob/\OR KT ρ' (.dict kd kvs' ep') ob):DV KT ρ kd kvs ep key y h a
section
variable{G:Gd}{C:Cx}{ρ:List Addr}{σ:AS}{s:Shared}
theorem nq {h:Heap}(S:SR G C ρ σ h){r:Nat}{a:Addr}{kd:Bool}{kvs:List (AV×AV)}{ep:Nat}{key:AV}{y:Value}(ha:ρ[r]? =some a)(hst:σ.st[r]? =some (.dict kd kvs ep))(hk:fg kd key=true)(ry:VR G.KT ρ key y):
  DV G.KT ρ kd kvs ep key y h a:=by
 refine aQ (S.obj ha hst) λ ob ho rr=>?_
 unfold fg at hk
 split at hk
 ·rename_i l
  refine aQ (DR.mapOf (show DR G.KT ρ (PySem.strKind G.KT.prog G.KT.w) kT kvs ep ob from rr) ho) λ xs hd hr=>?_
  exact⟨_,kT,kF _,⟨l.toArray⟩,xs,rfl,(kF G.KT).is ρ _ _ ry,hd,hr,λ kvs' xs' ep' h' ρ' d q=>DR.of d q⟩
 ·rename_i l
  refine aQ (DR.mapOf (show DR G.KT ρ (PySem.intKind G.KT.prog G.KT.w) AV.int kvs ep ob from rr) ho) λ xs hd hr=>?_
  exact⟨_,AV.int,kG _,l,xs,rfl,(kG G.KT).is ρ _ _ ry,hd,hr,λ kvs' xs' ep' h' ρ' d q=>DR.of d q⟩
 ·cases hk
noncomputable def uQ (o key:AV)(st:List AO):Option (Option AV):=o.r none λ r=>zO r st none λ kd kvs _=>bb (fg kd key) (some (iN kvs key)) none
theorem uP {r ep:Nat}{kd:Bool}{kvs:List (AV×AV)}{key:AV}{st:List AO}(h:st[r]? =some (.dict kd kvs ep)):uQ (.ref r) key st=bb (fg kd key) (some (iN kvs key)) none:=ze (k:=λ kd kvs _=>bb (fg kd key) (some (iN kvs key)) none) h
theorem pN {o key:AV}{z:Option AV}{x y:Value}(S:SR G C ρ σ s.heap)(e:uQ o key σ.st=some z)(rx:VR G.KT ρ o x)(ry:VR G.KT ρ key y):
  ∃a,a∈ρ/\x= .ref a/\∃(K:Type) (_:DecidableEq K) (knd:PySem.KeyKind G.prog G.w K) (k:K) (f:K->Option Value),knd.is k y=true/\s.heap.MapOf knd a f/\AtR G.KT ρ z (f k):=by
 refine AV.r_elim e λ r zr f=>?_;clear e;subst zr
 refine jb f nzO λ kd kvs ep hst f=>ay f λ hk e=>?_
 refine aQ rx λ a ha z1_=>?_
 obtain⟨knd,enc,D,k,xs,e1,hk',hd,hr,back⟩:=nq S ha hst hk ry
 refine⟨a,ac ha,z1_,_,_,knd,k,_,hk',hd.dictOf.mapOf,?_⟩
 have:=hr.find D k
 rw[e1,aj e]at this
 exact this
noncomputable def dSet (o key v:AV)(st:List AO):Option (List AO):=o.r none λ r=>zO r st none λ kd kvs ep=>bb (fg kd key) (bb (Nat.ble kvs.length big) (some (cr st r (Option.rec (motive:=λ _=>AO) (.dict kd (kvs++[(key,v)]) (Nat.succ ep)) (λ _=>.dict kd (wz kvs key v) ep) (iN kvs key)))) none) none
theorem wD {o key v:AV}{st':List AO}{x y z:Value}(S:SR G C ρ σ s.heap)(e:dSet o key v σ.st=some st')(rx:VR G.KT ρ o x)(ry:VR G.KT ρ key y)(rz:VR G.KT ρ v z):
  va G C ρ (setItem x y z) s ⟨st',σ.fr⟩:=by
 intro E Q hQ
 refine AV.r_elim e λ r zr f=>?_;clear e;subst zr
 refine jb f nzO λ kd kvs ep hst f=>ay f λ hk f=>ay f λ hz e=>?_
 refine aQ rx λ a ha z1_=>?_;clear rx;subst z1_
 rw[bw]at e
 cases e
 obtain⟨knd,enc,D,k,xs,e1,hk',hd,hr,back⟩:=nq S ha hst hk ry
 have hz:=bA hz
 unfold big at hz
 have hl:=hr.length
 have hf:=hr.find D k
 rw[e1]at hf
 refine o6 hk' hd (by rw[← hl,sizeLine_eq];exact je hz) (λ hv h' d' hs=>?_) λ hv h' d' hs=>?_
 ·refine hQ ρ () h' _ (ah _) ?_ rfl
  rcases q:iN kvs key with _|w
  ·rw[q]at hf;exact absurd hf hv
  ·have:=back _ _ _ h' ρ d' (hr.put D (k:=k) rz)
   rw[e1]at this
   exact S.upd ha hs this
 ·refine hQ ρ () h' _ (ah _) ?_ rfl
  rcases q:iN kvs key with _|w
  ·have:=back _ _ _ h' ρ d' (hr.snoc (k:=k) rz)
   rw[e1]at this
   exact S.upd ha hs this
  ·rw[q]at hf
   refine aQ hf λ w hw _=>?_
   rw[hv]at hw
   cases hw
end
section
variable{G:Gd}{N:Nm}
noncomputable def gd (a b:EF):EF:=λ D σ=>(a D σ).b .no λ x σ1=>(b D σ1).b .no λ y σ2=>Op.b (uQ x y σ2.st) .no λ z=>Op.b z .no λ v=>.ok v σ2
theorem jV {a b:EF}{e f:PySem.Expr}{p:Pos}(ha:SE G N a e)(hb:SE G N b f):SE G N (gd a b) (.Subscript e f p):=by
 intro C hC σ σ' v h ρ s S
 refine RV.elim h λ x σ1 h1 h=>?_
 refine RV.elim h λ y σ2 h2 h=>?_
 refine Op.elim h λ z h3 h=>?_
 refine Op.elim h λ w h4 h=>?_
 subst h4
 cases h
 intro E Q hQ
 refine iR (ha C hC _ _ _ h1 ρ s S E _ λ ρ1 u t'1 k'1 p'1 S'1 r'1=>hb C hC _ _ _ h2 _ ⟨t'1,s.gens,s.drawn,k'1,s.os⟩ S'1 E _ λ ρ2 v t'2 k'2 p'2 S'2 r'2=>?_)
 refine ja (pN (s:=⟨t'2,s.gens,s.drawn,k'2,s.os⟩) S'2 h3 (r'1.mono p'2) r'2) λ a ha z1_ K z2_=>?_;subst z1_;obtain⟨_,knd,k,f,hk,hm,w',hw,rw'⟩:=z2_
 exact⟨"dict","dict.__getitem__",hm.typeIs,slot_dict_getitem.lookup,wpAny_getItem_of hk hm hw (hQ ρ2 w' t'2 _ (p'1.trans p'2) S'2 rw')⟩
noncomputable def ul (a b:EF):GF:=λ D v σ=>(a D σ).b .no λ x σ1=>(b D σ1).b .no λ y σ2=>Op.b (dSet x y v σ2.st) .no λ st'=>.ok ⟨st',σ2.fr⟩
theorem qg {a b:EF}{e f:PySem.Expr}{p:Pos}(ha:SE G N a e)(hb:SE G N b f):SG G N (ul a b) (.Subscript e f p):=by
 intro C hC σ σ' v h ρ s z r S E Q hQ
 refine RV.elim h λ x σ1 h1 h=>?_
 refine RV.elim h λ y σ2 h2 h=>?_
 refine Op.elim h λ w h3 h=>?_
 cases h
 refine lf (ha C hC _ _ _ h1 ρ s S E _ λ ρ1 u t'1 k'1 p'1 S'1 r'1=>hb C hC _ _ _ h2 _ ⟨t'1,s.gens,s.drawn,k'1,s.os⟩ S'1 E _ λ ρ2 v t'2 k'2 p'2 S'2 r'2=>?_)
 exact wD (s:=⟨t'2,s.gens,s.drawn,k'2,s.os⟩) S'2 h3 (r'1.mono p'2) r'2 (r.mono (p'1.trans p'2)) E Q λ ρ3 a t'3 k'3 p'3 S3 r'3=>hQ ρ3 a t'3 k'3 (p'1.trans (p'2.trans p'3)) S3 r'3
noncomputable def oD (kd:Bool):EF:=λ D σ=>.ok (.ref σ.st.length) ⟨σ.st++[.dict kd [] 0],σ.fr⟩
theorem qm {kd:Bool}{p:Pos}:SE G N (oD kd) (.Dict [] [] p):=by
 intro C hC σ σ' v h ρ s S
 cases h
 intro E Q hQ
 refine wpAny_Dict_empty ?_
 have hr:OR G.KT (ρ++[s.heap.objs.size]) (.dict kd [] 0) {cls:=.type "dict",data:=.dict #[]}:=by
  cases kd with
  |true=>exact⟨#[],[],⟨rfl,rfl,rfl⟩,rfl,(by intro e he;simp at he),.nil,List.nodup_nil,.nil⟩
  |false=>exact⟨#[],[],⟨rfl,rfl,rfl⟩,rfl,(by intro e he;simp at he),.nil,List.nodup_nil,.nil⟩
 refine eA (jm S rfl hr) λ S2 q2=>?_
 exact hQ _ _ _ _ (ai _ _) S2 q2
end
section
variable{G:Gd}{N:Nm}
noncomputable def mR:MF:=λ D o vs σ=>match vs with
 |[k]=>Op.b (uQ o k σ.st) .no λ z=>.ok (Option.rec (motive:=λ _=>AV) .none (λ v=>v) z) σ
 |_=>.no
theorem o5:SM G mR .dict "get" "dict.get":=by
 refine⟨F.plainAttrs_dict,F.slot_dict_get,F.type_dict_get,?_⟩
 intro C σ σ' o vs v h ρ s x xs r rs S E Q hQ
 cases rs with
 |nil=>cases h
 |cons rk rs=>
 cases rs with
 |cons _ _=>cases h
 |nil=>
 refine Op.elim h λ z h1 h=>?_
 cases h
 refine ja (pN S h1 r rk) λ a ha z1_ K z2_=>?_;subst z1_;obtain⟨_,knd,k,f,hk,hm,hz⟩:=z2_
 refine call_meetsIn F.slot_dict_get hm.typeIs F.entry_dict_get (F.args_dict_get_2 _ _) (meets_dict_get knd a hk (S.nsm ha)) ⟨f,hm,?_⟩
 cases z with
 |none=>
  rw[show f k=none from hz]
  exact hQ ρ _ s.heap _ (ah _) S rfl
 |some v=>
  refine aQ hz λ w hw rw'=>?_
  rw[hw]
  exact hQ ρ _ s.heap _ (ah _) S rw'
noncomputable def cInD (neg:Bool)(a b:EF):TF:=λ D σ=>(a D σ).b .no λ x σ1=>(b D σ1).b .no λ y σ2=>Op.b (uQ y x σ2.st) .no λ z=>.ok (xor neg (Option.rec (motive:=λ _=>Bool) false (λ _=>true) z)) σ2
theorem yM {a b:EF}:∀D σ c σ',cInD false a b D σ= .ok c σ'->∃x y σ1,a D σ= .ok x σ1/\b D σ1= .ok y σ'/\∀(C:Cx) (ρ:List Addr) (s:Shared) (u v:Value),SR G C ρ σ' s.heap->VR G.KT ρ x u->VR G.KT ρ y v->jS G C ρ (compareOp .In u v) s (.bool c) σ':=by
 intro D σ c σ' h
 refine RV.elim h λ x σ1 h1 h=>?_
 refine RV.elim h λ y σ2 h2 h=>?_
 refine Op.elim h λ z h3 h=>?_
 cases h
 refine⟨_,_,_,h1,h2,λ C ρ s u v S ru rv E Q hQ=>?_⟩
 refine ja (pN S h3 rv ru) λ a ha z1_ K z2_=>?_;subst z1_;obtain⟨_,knd,k,f,hk,hm,hz⟩:=z2_
 refine wpAny_in_of hk (S.nsm ha) hm ?_
 have:(f k).isSome=xor false (Option.rec (motive:=λ _=>Bool) false (λ _=>true) z):=by
  cases z with
  |none=>rw[show f k=none from hz];rfl
  |some v=>refine aQ hz λ w hw _=>?_;rw[hw];rfl
 rw[this]
 exact hQ ρ _ s.heap _ (ah _) S rfl
noncomputable def fq (neg:Bool)(a:EF):TF:=λ D σ=>(a D σ).b .no λ x σ1=>.ok (xor neg (AV.casesOn (motive:=λ _=>Bool) x true (λ _=>false) (λ _=>false) (λ _=>false) (λ _=>false) (λ _=>false))) σ1
theorem lV {ρ:List Addr}{KT:b4}{x:AV}{u:Value}(r:VR KT ρ x u):plainIs u .none=true/\(u == Value.none)=AV.casesOn (motive:=λ _=>Bool) x true (λ _=>false) (λ _=>false) (λ _=>false) (λ _=>false) (λ _=>false):=by
 cases x with
 |none=>rw[show u= .none from r];exact⟨rfl,rfl⟩
 |bool b=>rw[show u= .bool b from r];exact⟨rfl,rfl⟩
 |int i=>refine eE r λ t z1_=>?_;clear r;subst z1_;exact⟨rfl,rfl⟩
 |str l=>refine eE r λ t z1_=>?_;clear r;subst z1_;exact⟨rfl,rfl⟩
 |ref i=>refine aQ r λ a _ z1_=>?_;clear r;subst z1_;exact⟨rfl,rfl⟩
 |kt i=>rcases r with⟨a,_,rfl⟩|⟨_,n,t,_,rfl⟩|⟨_,_,a,_,rfl⟩<;>exact⟨rfl,rfl⟩
theorem iI {a:EF}:∀D σ c σ',fq false a D σ= .ok c σ'->∃x y σ1,a D σ= .ok x σ1/\cC .none D σ1= .ok y σ'/\∀(C:Cx) (ρ:List Addr) (s:Shared) (u v:Value),SR G C ρ σ' s.heap->VR G.KT ρ x u->VR G.KT ρ y v->jS G C ρ (compareOp .Is u v) s (.bool c) σ':=by
 intro D σ c σ' h
 refine RV.elim h λ x σ1 h1 h=>?_
 cases h
 refine⟨_,_,_,h1,rfl,λ C ρ s u v S ru rv E Q hQ=>?_⟩
 cases(show v= .none from rv)
 refine eA (lV ru) λ q1 q2=>?_
 refine wpAny_is_plain q1 ?_
 rw[q2]
 exact hQ ρ _ s.heap s.toks (ah _) S (by rw[Bool.false_xor];rfl)
theorem mY {a:EF}:∀D σ c σ',fq true a D σ= .ok c σ'->∃x y σ1,a D σ= .ok x σ1/\cC .none D σ1= .ok y σ'/\∀(C:Cx) (ρ:List Addr) (s:Shared) (u v:Value),SR G C ρ σ' s.heap->VR G.KT ρ x u->VR G.KT ρ y v->jS G C ρ (compareOp .IsNot u v) s (.bool c) σ':=by
 intro D σ c σ' h
 refine RV.elim h λ x σ1 h1 h=>?_
 cases h
 refine⟨_,_,_,h1,rfl,λ C ρ s u v S ru rv E Q hQ=>?_⟩
 cases(show v= .none from rv)
 refine eA (lV ru) λ q1 q2=>?_
 refine wpAny_isNot_plain q1 ?_
 rw[q2]
 exact hQ ρ _ s.heap s.toks (ah _) S (by rw[Bool.true_xor];rfl)
noncomputable def mU (o:AV)(st:List AO):Option (Nat×List AV):=o.r none λ r=>xE r st none λ xs=>bb (Nat.ble xs.length big) (some (r,xs)) none
theorem gj {C:Cx}{ρ:List Addr}{σ:AS}{s:Shared}{o:AV}{r:Nat}{xs:List AV}{x:Value}(S:SR G C ρ σ s.heap)(e:mU o σ.st=some (r,xs))(rx:VR G.KT ρ o x):
  ∃a its n,ρ[r]? =some a/\x= .ref a/\σ.st[r]? =some (.list xs)/\s.heap.get? a=some {cls:=.type "list",dict:=none,data:=.seq its n,slots:=#[]}/\VRs G.KT ρ xs its.toList/\its.size<=16777216/\its.size=xs.length:=by
 refine AV.r_elim e λ r' zr e=>gY e nzO λ ys hst e=>ay e λ hz e=>?_
 cases e
 subst zr
 refine aQ rx λ a ha z1_=>?_
 refine bC (S.obj ha hst) λ ob ho vs n z2_ r1=>?_
 have hz:=bA hz
 have hl:vs.size=xs.length:=by rw[r1.length];simp
 unfold big at hz
 exact⟨a,vs,n,ha,z1_,hst,z2_▸ho,r1,by exact ω14 hl hz,hl⟩
noncomputable def cD:MF:=λ D o vs σ=>match vs with
 |[v]=>Op.b (mU o σ.st) .no λ p=>.ok .none ⟨cr σ.st p.1 (.list (p.2++[v])),σ.fr⟩
 |_=>.no
theorem dC:SM G cD .list "append" "list.append":=by
 refine⟨F.plainAttrs_list,F.slot_list_append,F.type_list_append,?_⟩
 intro C σ σ' o vs v h ρ s x xs r rs S E Q hQ
 cases rs with
 |nil=>cases h
 |cons rk rs=>
 cases rs with
 |cons _ _=>cases h
 |nil=>
 refine aQ (Op.inv h (by nofun)) λ z1_ h1 h=>?_;obtain⟨p,l⟩:=z1_
 rw[bw]at h
 cases h
 refine cY (gj S h1 r) λ a its n ha z1_ hst ho r1 hz hl=>?_;subst z1_
 refine call_meets F.slot_list_append ⟨_,ho,rfl⟩ F.entry_list_append (F.args_list_append_2 _ _) (PySem.list_append a its n _ (by rw[sizeLine_eq];exact je hz)) ⟨ho,?_⟩
 refine hQ ρ _ _ _ (ah _) (S.upd ha (bq ..) ⟨_,IsL.update ho _,its.push _,_,rfl,?_⟩) rfl
 rw[Array.toList_push]
 exact r1.append (.cons rk .nil)
noncomputable def yw:MF:=λ D o vs σ=>match vs with
 |[]=>Op.b (mU o σ.st) .no λ p=>Op.b (cy p.2 (p.2.length - 1)) .no λ v=>.ok v ⟨cr σ.st p.1 (.list p.2.dropLast),σ.fr⟩
 |_=>.no
theorem VRs.dropLast {KT:b4}{ρ:List Addr}{vs:List AV}{xs:List Value}(r:VRs KT ρ vs xs):VRs KT ρ vs.dropLast xs.dropLast:=by
 rw[List.dropLast_eq_take,List.dropLast_eq_take,r.length]
 exact r.take _
theorem sX:SM G yw .list "pop" "list.pop":=by
 refine⟨F.plainAttrs_list,F.slot_list_pop,F.type_list_pop,?_⟩
 intro C σ σ' o vs v h ρ s x xs r rs S E Q hQ
 cases rs with
 |cons _ _=>cases h
 |nil=>
 refine aQ (Op.inv h (by nofun)) λ z1_ h1 h=>?_;obtain⟨p,l⟩:=z1_
 refine Op.elim h λ w h2 h=>?_
 rw[bw]at h
 rw[aS]at h2
 cases h
 refine cY (gj S h1 r) λ a its n ha z1_ hst ho r1 hz hl=>?_;subst z1_
 refine aQ (r1.get h2) λ y hy ry=>?_
 refine Copied.pop_at ho (y:=y) (by rw[hl,← Array.getElem?_toList];exact hy) (λ h' hs ho'=>?_) (by rw[sizeLine_eq];exact je hz)
 refine hQ ρ _ h' s.toks (ah _) (S.upd ha hs ⟨_,ho',its.pop,n+1,rfl,?_⟩) ry
 rw[Array.toList_pop]
 exact r1.dropLast
noncomputable def mS:MF:=λ D o vs σ=>match vs with
 |[]=>Op.b (mU o σ.st) .no λ p=>.ok .none ⟨cr σ.st p.1 (.list []),σ.fr⟩
 |_=>.no
theorem sZ:SM G mS .list "clear" "list.clear":=by
 refine⟨F.plainAttrs_list,F.slot_list_clear,F.type_list_clear,?_⟩
 intro C σ σ' o vs v h ρ s x xs r rs S E Q hQ
 cases rs with
 |cons _ _=>cases h
 |nil=>
 refine aQ (Op.inv h (by nofun)) λ z1_ h1 h=>?_;obtain⟨p,l⟩:=z1_
 rw[bw]at h
 cases h
 refine cY (gj S h1 r) λ a its n ha z1_ hst ho r1 hz hl=>?_;subst z1_
 refine call_meets F.slot_list_clear ⟨_,ho,rfl⟩ F.entry_list_clear (F.args_list_clear_1 _) (AutoSeq1.list_clear_list_0 a its n (by rw[sizeLine_eq];exact je hz)) ⟨ho,?_⟩
 exact hQ ρ _ _ _ (ah _) (S.upd ha (bq ..) ⟨_,IsL.update ho _,#[],_,rfl,.nil⟩) rfl
end
noncomputable def pA (xs:List AV)(k:AV):Bool:=List.rec (motive:=λ _=>Bool) false (λ p _ ih=>bb (eM p k) true ih) xs
section
variable{KT:b4}{K:Type}[DecidableEq K] {knd:PySem.KeyKind KT.prog KT.w K}{enc:K->AV}
theorem KD.inj (D:KD KT knd enc){a b:K}(h:enc a=enc b):a=b:=by
 have h1:=D.eq a b
 have h2:=D.eq b b
 rw[h]at h1
 rw[h1]at h2
 simpa using h2
end
theorem wl (l r:List Nat):si l r=true↔l=r:=by rw[iL,beq_iff_eq]
theorem lU {kd:Bool}{a b:AV}(h:fg kd b=true):eM a b=true↔a=b:=by
 unfold fg at h
 split at h
 ·cases a with
  |str l=>exact(wl l _).trans ⟨λ e=>(by rw[e]),λ e=>(by injection e)⟩
  |_=>exact⟨λ e=>(by cases e),λ e=>(by cases e)⟩
 ·cases a with
  |int i=>show(i == _)=true↔_;rw[beq_iff_eq];exact⟨λ e=>(by rw[e]),λ e=>(by injection e)⟩
  |_=>exact⟨λ e=>(by cases e),λ e=>(by cases e)⟩
 ·cases h
theorem kI {kd:Bool}{xs:List AV}{k:AV}(h:fg kd k=true):pA xs k=true↔k∈xs:=by
 induction xs with
 |nil=>exact⟨λ e=>(by cases e),λ e=>(by simp at e)⟩
 |cons p xs ih=>
  change bb (eM p k) true (pA xs k)=true↔_
  rw[oG,List.mem_cons]
  by_cases q:eM p k=true
  ·rw[if_pos q];exact⟨λ _=>.inl ((lU h).mp q).symm,λ _=>rfl⟩
  ·rw[if_neg q,ih]
   exact⟨.inr,λ e=>e.elim (λ e=>absurd ((lU h).mpr e.symm) q) id⟩
section
variable{G:Gd}{C:Cx}{ρ:List Addr}{σ:AS}{s:Shared}
noncomputable def sAt (o:AV)(k:AV)(st:List AO):Option (Nat×Bool×List AV):=o.r none λ r=>seA r st none λ kd xs=>bb (fg kd k) (some (r,kd,xs)) none
inductive SV (KT:b4) (ρ:List Addr) (kd:Bool) (xs:List AV) (key:AV) (y:Value) (h:Heap) (a:Addr):Prop
 |mk {K:Type} [DecidableEq K] (knd:PySem.KeyKind KT.prog KT.w K) (enc:K->AV) (D:KD KT knd enc) (k:K) (T:K->Bool) (n:Nat) (e:enc k=key) (hk:knd.is k y=true) (hs:h.SetOf knd a T n) (hn:n<scanBound) (hl:n<=xs.length) (hT:∀k,T k=true↔enc k∈xs)
   (back:∀(xs':List AV) (T':K->Bool) (n':Nat) (h':Heap) (ρ':List Addr),h'.SetOf knd a T' n'->n' <scanBound->n'<=xs'.length->(∀k,T' k=true↔enc k∈xs')->∃ob,h'.get? a=some ob/\OR KT ρ' (.set kd xs') ob):SV KT ρ kd xs key y h a
theorem yg {h:Heap}(S:SR G C ρ σ h){r:Nat}{a:Addr}{kd:Bool}{xs:List AV}{key:AV}{y:Value}(ha:ρ[r]? =some a)(hst:σ.st[r]? =some (.set kd xs))(hk:fg kd key=true)(ry:VR G.KT ρ key y):
  SV G.KT ρ kd xs key y h a:=by
 refine aQ (S.obj ha hst) λ ob ho rr=>?_
 unfold fg at hk
 split at hk
 ·rename_i l
  refine bz ((show sb (PySem.strKind G.KT.prog G.KT.w) kT xs ob from rr)) λ T n h1 h2 h3 h4=>?_
  exact⟨_,kT,kF _,⟨l.toArray⟩,T,n,rfl,(kF G.KT).is ρ _ _ ry,h1.setOf ho h2,h2,h3,h4,λ xs' T' n' h' ρ' q1 q2 q3 q4=>by
   refine aQ q1.objOf λ o e1 e2=>?_
   exact⟨o,e1,T',n',e2,q2,q3,q4⟩⟩
 ·rename_i l
  refine bz ((show sb (PySem.intKind G.KT.prog G.KT.w) AV.int xs ob from rr)) λ T n h1 h2 h3 h4=>?_
  exact⟨_,AV.int,kG _,l,T,n,rfl,(kG G.KT).is ρ _ _ ry,h1.setOf ho h2,h2,h3,h4,λ xs' T' n' h' ρ' q1 q2 q3 q4=>by
   refine aQ q1.objOf λ o e1 e2=>?_
   exact⟨o,e1,T',n',e2,q2,q3,q4⟩⟩
 ·cases hk
theorem nU {kd:Bool}{KT:b4}{key:AV}{y:Value}(hk:fg kd key=true)(ry:VR KT ρ key y):y.scannable=true:=by
 unfold fg at hk
 split at hk
 ·refine eE ry λ t z1_=>?_;clear ry;subst z1_;rfl
 ·refine eE ry λ t z1_=>?_;clear ry;subst z1_;rfl
 ·cases hk
theorem tq {o key:AV}{r:Nat}{kd:Bool}{xs:List AV}{x y:Value}{h:Heap}(S:SR G C ρ σ h)(e:sAt o key σ.st=some (r,kd,xs))(rx:VR G.KT ρ o x)(ry:VR G.KT ρ key y):
  ∃a,ρ[r]? =some a/\x= .ref a/\fg kd key=true/\SV G.KT ρ kd xs key y h a:=by
 refine AV.r_elim e λ r' zr e=>tc e nzO λ kd' xs' hst e=>ay e λ hk e=>?_
 cases e
 subst zr
 exact aQ rx λ a ha z1_=>⟨a,ha,z1_,hk,yg S ha hst hk ry⟩
end
section
variable{G:Gd}{N:Nm}
noncomputable def zg (neg:Bool)(a b:EF):TF:=λ D σ=>(a D σ).b .no λ x σ1=>(b D σ1).b .no λ y σ2=>Op.b (sAt y x σ2.st) .no λ z=>.ok (xor neg (pA z.2.2 x)) σ2
theorem ug {a b:EF}:∀D σ c σ',zg false a b D σ= .ok c σ'->∃x y σ1,a D σ= .ok x σ1/\b D σ1= .ok y σ'/\∀(C:Cx) (ρ:List Addr) (s:Shared) (u v:Value),SR G C ρ σ' s.heap->VR G.KT ρ x u->VR G.KT ρ y v->jS G C ρ (compareOp .In u v) s (.bool c) σ':=by
 intro D σ c σ' h
 refine RV.elim h λ x σ1 h1 h=>?_
 refine RV.elim h λ y σ2 h2 h=>?_
 refine aQ (Op.inv h (by nofun)) λ z1_ h3 h=>?_;obtain⟨r,kd,xs⟩:=z1_
 cases h
 refine⟨_,_,_,h1,h2,λ C ρ s u v S ru rv E Q hQ=>?_⟩
 refine em (tq S h3 rv ru) λ a ha z1_ hk z2_=>?_;subst z1_;obtain⟨knd,enc,D,k,T,n,e,hk',hs,hn,hl,hT,back⟩:=z2_
 refine wpAny_inSet_of hk' (nU hk ru) hs ?_
 have:T k=xor false (pA xs x):=by
  rw[Bool.false_xor,Bool.eq_iff_iff,hT,kI hk,e]
 rw[this]
 exact hQ ρ _ s.heap _ (ah _) S rfl
noncomputable def mAdd:MF:=λ D o vs σ=>match vs with
 |[k]=>Op.b (sAt o k σ.st) .no λ z=>bb (Nat.ble z.2.2.length 4000) (.ok .none ⟨cr σ.st z.1 (.set z.2.1 (bb (pA z.2.2 k) z.2.2 (z.2.2++[k]))),σ.fr⟩) .no
 |_=>.no
theorem yd:SM G mAdd .set "add" "set.add":=by
 refine⟨F.plainAttrs_set,F.slot_set_add,F.type_set_add,?_⟩
 intro C σ σ' o vs v h ρ s x xs r rs S E Q hQ
 cases rs with
 |nil=>cases h
 |cons rk rs=>
 cases rs with
 |cons _ _=>cases h
 |nil=>
 refine aQ (Op.inv h (by nofun)) λ z1_ h1 h=>?_;obtain⟨p,kd,l⟩:=z1_
 refine ay h λ hz h=>?_
 rw[bw]at h
 cases h
 have hz:=bA hz
 change l.length<=4000 at hz
 refine em (tq S h1 r rk) λ a ha z1_ hk z2_=>?_;subst z1_;obtain⟨knd,enc,D,k,T,n,e,hk',hs,hn,hl,hT,back⟩:=z2_
 subst e
 refine call_set_add hk' (nU hk rk) hs (by unfold scanBound;exact ω15 hl hz) λ h' hb hs'=>?_
 refine hQ ρ _ h' _ (ah _) (S.upd ha hb ?_) rfl
 change ∃ob,h'.get? a=some ob/\OR G.KT ρ (.set kd (bb (pA l (enc k)) l (l++[enc k]))) ob
 rw[oG]
 by_cases q:pA l (enc k)=true
 ·rw[if_pos q]
  have hm:=(kI hk).mp q
  have hTk:T k=true:=(hT k).mpr hm
  rw[if_pos hTk]at hs'
  refine back _ _ _ _ _ hs' hn hl λ k'=>?_
  rw[Bool.or_eq_true,hT,decide_eq_true_eq]
  exact⟨λ z=>z.elim id λ z=>(by rw[z];exact hm),.inl⟩
 ·rw[if_neg q]
  have hTk:¬T k=true:=λ z=>q ((kI hk).mpr ((hT k).mp z))
  rw[if_neg hTk]at hs'
  refine back _ _ _ _ _ hs' (by unfold scanBound;exact ω15 hl hz) (by simp;exact ω16 hl) λ k'=>?_
  rw[Bool.or_eq_true,hT,decide_eq_true_eq,bn,List.mem_singleton]
  exact⟨λ z=>z.imp id λ z=>(by rw[z]),λ z=>z.imp id D.inj⟩
noncomputable def bSet (kd:Bool):CF:=λ D vs σ=>match vs with
 |[]=>.ok (.ref σ.st.length) ⟨σ.st++[.set kd []],σ.fr⟩
 |_=>.no
theorem yj {kd:Bool}:SC G (bSet kd) (.type "set"):=by
 intro C σ σ' vs v h ρ s xs r S E Q hQ
 cases r with
 |cons _ _=>cases h
 |nil=>
 cases h
 refine call_set_0 λ qx=>?_
 have hr:OR G.KT (ρ++[s.heap.objs.size]) (.set kd []) {cls:=.type "set",dict:=none,data:=.set #[] 0 (.fresh 0 0 qx)}:=by
  cases kd with
  |true=>exact⟨λ _=>false,0,setObjOf_fresh qx,by unfold scanBound;exact ω17,Nat.le_refl _,λ k=>⟨λ e=>(by cases e),λ e=>by simp at e⟩⟩
  |false=>exact⟨λ _=>false,0,setObjOf_fresh qx,by unfold scanBound;exact ω17,Nat.le_refl _,λ k=>⟨λ e=>(by cases e),λ e=>by simp at e⟩⟩
 refine eA (jm S rfl hr) λ S2 q2=>?_
 exact hQ _ _ _ _ (ai _ _) S2 q2
end
theorem oX {d:Addr}{o o':Obj}{post:List (Addr×Obj)}(h2:∀p∈post,p.1≠d):∀{pre:List (Addr×Obj)},(∀p∈pre,p.1≠d)->Upd d o o' (pre++(d,o)::post) (pre++(d,o')::post)
 |[],_=>.head h2
 |p::r,h=>.tail (h p (.head _)) (oX h2 λ q hq=>h q (.tail _ hq))
theorem jp (x y:Str)(t:Tok):(Value.str x t).isStr y=(x == y):=rfl
theorem gZ {name:Str}{hsh:Int}{t:Tok}{v:Value}:∀{es:List DictEntry},getL name (putL name hsh (.str name t) v es)=some (some v)
 |[]=>by
  show(match List.find? (·.key.isStr name) [(⟨hsh,.str name t,v⟩:DictEntry)]with|some e=>some (some e.val)|none=>_)=_
  simp[List.find?,jp]
 |e::r=>by
  unfold putL
  by_cases q:e.key.isStr name=true
  ·rw[if_pos q]
   unfold getL
   simp[List.find?,q]
  ·rw[if_neg q]
   have ih:=gZ (name:=name) (hsh:=hsh) (t:=t) (v:=v) (es:=r)
   unfold getL at ih ⊢
   rw[List.find?_cons]
   simp only[Bool.not_eq_true]at q
   rw[q]
   revert ih
   generalize List.find? (λ x=>x.key.isStr name) (putL name hsh (.str name t) v r)=z
   intro ih
   cases z with
   |some e'=>exact ih
   |none=>simp at ih
theorem gQ (name:Str)(hsh:Int)(key v:Value):∀es:List DictEntry,(putL name hsh key v es).length<=es.length+1
 |[]=>Nat.le_refl _
 |e::r=>by
  unfold putL
  split
  ·simp
  ·have:=gQ name hsh key v r
   simp;exact ω18 this
theorem rP {k:Value}{x y:Str}(h1:k.isStr x=true)(h2:k.isStr y=true):x=y:=by
 cases k with
 |str z t=>
  rw[jp,beq_iff_eq]at h1 h2
  rw[← h1,← h2]
 |_=>cases h1
theorem jr {name x:Str}(hne:x≠name){hsh:Int}{t:Tok}{v:Value}:∀es:List DictEntry,((putL name hsh (.str name t) v es).find? (·.key.isStr x)).map (·.val)=(es.find? (·.key.isStr x)).map (·.val)/\(putL name hsh (.str name t) v es).any (·.refKey)=es.any (·.refKey)
 |[]=>by
  have:(name == x)=false:=by simpa using Ne.symm hne
  simp[putL,List.find?,jp,this,DictEntry.refKey]
 |e::r=>by
  have ih:=jr hne (hsh:=hsh) (t:=t) (v:=v) r
  unfold putL
  by_cases q:e.key.isStr name=true
  ·rw[if_pos q]
   constructor
   ·by_cases z:e.key.isStr x=true
    ·exact absurd (rP z q) hne
    ·simp only[Bool.not_eq_true]at z
     simp[List.find?,z]
   ·simp[DictEntry.refKey]
  ·rw[if_neg q]
   constructor
   ·rw[List.find?_cons,List.find?_cons]
    split
    ·rfl
    ·exact ih.1
   ·rw[List.any_cons,List.any_cons,ih.2]
theorem qG (name:Str)(es:List DictEntry):getL name es=match(es.find? (·.key.isStr name)).map (·.val)with
  |some v=>some (some v)
  |none=>if es.any (·.refKey)then none else some none:=by
 unfold getL
 cases es.find? (·.key.isStr name)<;>rfl
theorem i8 {name x:Str}(hne:x≠name){hsh:Int}{t:Tok}{v:Value}{es:List DictEntry}:getL x (putL name hsh (.str name t) v es)=getL x es:=by
 rw[qG,qG,(jr hne es).1,(jr hne es).2]
noncomputable def dT {β:Type}(o:AV)(st:List AO)(n:β)(k:Nat->Addr->Nat->List (Option AV)->β):β:=o.r n λ r=>inA r st n (k r)
noncomputable def eK {β:Type}(j:Nat)(st:List AO)(n:β)(k:Nat->List (Option AV)->Nat->β):β:=atA j st n k
theorem dY {β:Type}{r j:Nat}{C:Addr}{v:List (Option AV)}{st:List AO}{n:β}{k:Nat->Addr->Nat->List (Option AV)->β}(h:st[r]? =some (.inst C j v)):dT (.ref r) st n k=k r C j v:=ud (k:=k r) h
theorem fD {β:Type}{j c b:Nat}{v:List (Option AV)}{st:List AO}{n:β}{k:Nat->List (Option AV)->Nat->β}(h:st[j]? =some (.attrs c v b)):eK j st n k=k c v b:=u7 (k:=k) h
theorem ey {β:Type}{o:AV}{st:List AO}{n z:β}{k:Nat->Addr->Nat->List (Option AV)->β}(h:dT o st n k=z)(hz:n≠z):∃r C j vals,o= .ref r/\st[r]? =some (.inst C j vals)/\k r C j vals=z:=by
 exact AV.r_elim (hz:=hz) h λ r e h=>ue h hz λ C j v g h=>⟨_,_,_,_,e,g,h⟩
theorem fU {β:Type}{j:Nat}{st:List AO}{n z:β}{k:Nat->List (Option AV)->Nat->β}(h:eK j st n k=z)(hz:n≠z):∃c vals b,st[j]? =some (.attrs c vals b)/\k c vals b=z:=by
 exact u8 h hz λ a b c g h=>⟨_,_,_,g,h⟩
noncomputable def bO (C0:Addr)(i:Nat)(o:AV)(st:List AO):Option AV:=
 dT o st none λ _ C j _=>bb (Nat.beq C C0) (eK j st none λ c vals _=>bb (Nat.beq c C0) (Op.b (cy vals i) none λ z=>z) none) none
section
variable{G:Gd}{C:Cx}{ρ:List Addr}{σ:AS}{s:Shared}
theorem ig {h:Heap}(S:SR G C ρ σ h){r j:Nat}{D:Addr}{vals:List (Option AV)}{a:Addr}{o:AO}(ha:ρ[r]? =some a)(hst:σ.st[r]? =some (.inst D j vals))(hj:σ.st[j]? =some o):
  ∃(dx:Addr) (sl:Array (Option Value)) (od:Obj),ρ[j]? =some dx/\h.get? a=some ⟨.ref D,some dx,.plain,sl⟩/\h.get? dx=some od/\OR G.KT ρ o od/\(∀(i:Nat),SlR G.KT ρ vals[i]? (sl[i]?).join)/\InstAt h a ⟨.ref D,some dx,.plain,sl⟩ D (some od):=by
 refine wt (S.obj ha hst) λ ob ho dx sl e1 z1_ e3=>?_;subst z1_
 refine aQ (S.obj e1 hj) λ od ho' r'=>?_
 exact⟨dx,sl,od,e1,ho,ho',r',e3,ho,rfl,rfl,ho'⟩
structure se (G:Gd) (D:Addr) (i:Nat) (name:Str):Prop where
 nm:(G.KT.ns D)[i]? =some name
 pg:plainGet G.K D name=true
 hd:hasDictIn G.K D=true
 fi:∃attr,findIn G.K (.ref D) name=some attr/\noGet G.K attr=true
theorem VR.handed {KT:b4}{v:AV}{x:Value}(r:VR KT ρ v x):handedIn x=true:=by
 cases v with
 |none=>rw[show x= .none from r];rfl
 |bool b=>rw[show x= .bool b from r];rfl
 |int i=>refine eE r λ t z1_=>?_;clear r;subst z1_;rfl
 |str l=>refine eE r λ t z1_=>?_;clear r;subst z1_;rfl
 |ref i=>refine aQ r λ a _ z1_=>?_;clear r;subst z1_;rfl
 |kt i=>rcases r with⟨a,_,rfl⟩|⟨_,n,t,_,rfl⟩|⟨_,_,a,_,rfl⟩<;>rfl
theorem wN {D:Addr}{i:Nat}{name:Str}{o v:AV}{x:Value}{ex:Bool}(A:se G D i name)(S:SR G C ρ σ s.heap)(e:bO D i o σ.st=some v)(rx:VR G.KT ρ o x):jS G C ρ (getAttr x name ex) s v σ:=by
 intro E Q hQ
 obtain⟨r,D',j,vals,rfl,hst,e⟩:=ey e (by nofun)
 refine ay e λ hD e=>?_
 refine kY (fU e (by nofun)) λ c vs b hj e=>?_
 refine ay e λ hc e=>?_
 refine Op.elim e λ z h1 e9=>?_
 have e9:z=some v:=e9
 have hD:=aE hD
 have hc:=aE hc
 subst hD hc
 rw[aS]at h1
 refine aQ rx λ a ha z1_=>?_;clear rx;subst z1_
 refine df (ig S ha hst hj) λ dx sl od _ _ _ z1_ _ I=>?_;obtain⟨es,n,rfl,_,_,hns⟩:=z1_
 have:=hns i name A.nm
 rw[h1,e9]at this
 refine aQ this λ y hy ry=>?_
 refine aQ S.fr' λ m F _=>?_
 refine aQ A.fi λ attr f1 f2=>?_
 exact get_own F S.ok.X0 I A.pg A.hd f1 f2 hy ry.handed (hQ ρ y s.heap _ (ah _) S ry)
structure ll (G:Gd) (D:Addr) (i:Nat) (name:Str):Prop where
 ex:∃p,plainGet G.K D name=true/\isClsIn G.K D=true/\findIn G.K (.ref D) name=some (some (.ref p))/\specialIn G.K (.ref p) "__get__"=some (some (.builtin "member_descriptor.__get__"))/\takesIn G.K (.ref p)=some true/\slotIn G.K p D=some i/\
  findIn G.K (.ref D) "__setattr__"=some (some (.builtin "object.__setattr__"))/\plainOver G.K D=true/\takerIn G.K D name=some (some (.ref p))/\typeIn G.K (.ref p)=some (.type "member_descriptor")/\i<1000
noncomputable def cP (C0:Addr)(i:Nat)(o:AV)(st:List AO):Option AV:=
 dT o st none λ _ C j vals=>bb (Nat.beq C C0) (Op.b (cy st j) none λ _=>Op.b (cy vals i) none λ z=>z) none
theorem s9 {D:Addr}{i:Nat}{name:Str}{o v:AV}{x:Value}{ex:Bool}(A:ll G D i name)(S:SR G C ρ σ s.heap)(e:cP D i o σ.st=some v)(rx:VR G.KT ρ o x):jS G C ρ (getAttr x name ex) s v σ:=by
 intro E Q hQ
 obtain⟨r,D',j,vals,rfl,hst,e⟩:=ey e (by nofun)
 refine ay e λ hD e=>?_
 refine Op.elim e λ oj hj e=>?_
 refine Op.elim e λ z h1 e9=>?_
 have e9:z=some v:=e9
 have hD:=aE hD
 subst hD
 rw[aS]at h1 hj
 refine aQ rx λ a ha z1_=>?_;clear rx;subst z1_
 refine df (ig S ha hst hj) λ dx sl od _ _ _ _ hsl I=>?_
 have:=hsl i
 rw[h1,e9]at this
 refine aQ this λ y hy ry=>?_
 refine aQ S.fr' λ m F _=>?_
 refine k5 A.ex λ p a1 a2 a3 a4 a5 a6 _=>?_
 exact get_slot F S.ok.X0 I a1 a2 a3 a4 a5 a6 hy ry.handed (hQ ρ y s.heap _ (ah _) S ry)
end
noncomputable def hY (C0:Addr)(i:Nat)(o v:AV)(st:List AO):Option (List AO):=
 dT o st none λ _ C j _=>bb (Nat.beq C C0) (eK j st none λ c vals b=>bb (Nat.beq c C0) (bb (Nat.ble b 900) (Op.b (cy vals i) none λ _=>some (cr st j (.attrs c (cr vals i (some v)) (Nat.succ b)))) none) none) none
noncomputable def dW (C0:Addr)(i:Nat)(o v:AV)(st:List AO):Option (List AO):=
 dT o st none λ r C j vals=>bb (Nat.beq C C0) (Op.b (cy st j) none λ _=>Op.b (cy vals i) none λ _=>some (cr st r (.inst C j (cr vals i (some v))))) none
structure sd (G:Gd) (D:Addr) (i:Nat) (name:Str):Prop where
 nm:(G.KT.ns D)[i]? =some name
 nd:(G.KT.ns D).Nodup
 sa:findIn G.K (.ref D) "__setattr__"=some (some (.builtin "object.__setattr__"))
 po:plainOver G.K D=true
 tk:takerIn G.K D name=some none
 hd:hasDictIn G.K D=true
section
variable{G:Gd}{C:Cx}{ρ:List Addr}{σ:AS}{s:Shared}
theorem wM {D:Addr}{i:Nat}{name:Str}{o v:AV}{st':List AO}{x y:Value}(A:sd G D i name)(S:SR G C ρ σ s.heap)(e:hY D i o v σ.st=some st')(rx:VR G.KT ρ o x)(ry:VR G.KT ρ v y):
  va G C ρ (setAttr x name y) s ⟨st',σ.fr⟩:=by
 intro E Q hQ
 refine i_ (ey e (by nofun)) λ r D' j vals z1_ hst e1=>?_;subst z1_
 refine ay e1 λ hD e2=>?_
 refine kY (fU e2 (by nofun)) λ c vs b hj e3=>?_
 refine ay e3 λ hc e4=>?_
 refine ay e4 λ hb e5=>?_
 refine Op.elim e5 λ z h1 e6=>?_
 have hD:=aE hD
 have hc:=aE hc
 have hb:=bA hb
 have e7:cr σ.st j (.attrs c (cr vs i (some v)) (Nat.succ b))=st':=aj e6
 rw[bw,bw]at e7
 rw[aS]at h1
 subst hD
 subst hc
 subst e7
 refine aQ rx λ a ha z1_=>?_;clear rx;subst z1_
 refine df (ig S ha hst hj) λ dx sl od hdx _ hdo z1_ _ I=>?_;obtain⟨es,n,rfl,hlen,hno,hns⟩:=z1_
 refine aQ S.fr' λ m F hm=>?_
 have hin:=S.inLed hdx hdo (by
  cases q:G.h0.get? dx with
  |none=>rfl
  |some o=>exact absurd (S.rep.off dx (ac hdx)) (S.ok.h0B dx o q))
 refine vf (lR hin) λ pre post hl=>?_
 refine eA (lS hl) λ p1 p2=>?_
 have N:=nZ G.h0 C.env.locals s.heap
 rw[hl]at N
 have hsome:(getL name es).isSome=true:=by
  have:=hns i name A.nm
  rcases q:vs[i]? with _|_|w
  ·rw[q]at this;rw[show getL name es=some none from this];rfl
  ·rw[q]at this;rw[show getL name es=some none from this];rfl
  ·rw[q]at this
   refine aQ this λ u hu _=>?_
   rw[hu];rfl
 have hz:(putL name (PyData.keyHash G.w.params name) (.str name (s.toks+1)) y es).length<=1000:=by
  have:=gQ name (PyData.keyHash G.w.params name) (.str name (s.toks+1)) y es
  exact ω22 this hlen hb
 refine set_dict F S.ok.X0 N I rfl A.sa A.po A.tk A.hd hsome rfl (oX p2 p1) hz λ h' F' N'=>?_
 refine hQ ρ () h' _ (ah _) (S.updK F hm F' hdx hl N' ?_) rfl
 refine⟨_,_,rfl,?_,λ x hx=>?_,λ k x hx=>?_⟩
 ·have:=gQ name (PyData.keyHash G.w.params name) (.str name (s.toks+1)) y es
  exact ω19 this hlen
 ·have:x≠name:=λ q=>hx (q▸ac A.nm)
  rw[i8 this]
  exact hno x hx
 ·by_cases hk:k=i
  ·subst hk
   have:x=name:=aj (hx.symm.trans A.nm)
   subst this
   rw[gZ,aH (aa.mp h1).1]
   exact⟨y,rfl,ry⟩
  ·have:x≠name:=λ q=>hk (dX A.nd hx (q▸A.nm))
   rw[i8 this,ak (Ne.symm hk)]
   exact hns k x hx
theorem rG {sl:Array (Option Value)}{i:Nat}{y:Value}(j:Nat):(((sl++Array.replicate (i+1 - sl.size) none).setIfInBounds i (some y))[j]?).join=if j=i then some y else(sl[j]?).join:=by
 rw[Array.getElem?_setIfInBounds]
 by_cases h:i=j
 ·subst h
  rw[if_pos rfl,if_pos rfl,if_pos (by rw[Array.size_append,Array.size_replicate];exact ω20)]
  rfl
 ·rw[if_neg h,if_neg (Ne.symm h),Array.getElem?_append]
  split
  ·rfl
  ·rename_i hj
   rw[Array.getElem?_eq_none (by exact ω21 hj:sl.size<=j),Array.getElem?_replicate]
   split<;>rfl
theorem s8 {D:Addr}{i:Nat}{name:Str}{o v:AV}{st':List AO}{x y:Value}(A:ll G D i name)(S:SR G C ρ σ s.heap)(e:dW D i o v σ.st=some st')(rx:VR G.KT ρ o x)(ry:VR G.KT ρ v y):
  va G C ρ (setAttr x name y) s ⟨st',σ.fr⟩:=by
 intro E Q hQ
 refine i_ (ey e (by nofun)) λ r D' j vals z1_ hst e1=>?_;subst z1_
 refine ay e1 λ hD e2=>?_
 refine Op.elim e2 λ oj hj e3=>?_
 refine Op.elim e3 λ z h1 e6=>?_
 have hD:=aE hD
 have e7:cr σ.st r (.inst D' j (cr vals i (some v)))=st':=aj e6
 rw[bw,bw]at e7
 rw[aS]at h1 hj
 subst hD
 subst e7
 refine aQ rx λ a ha z1_=>?_;clear rx;subst z1_
 refine df (ig S ha hst hj) λ dx sl od hdx hao hdo _ hsl I=>?_
 refine aQ S.fr' λ m F hm=>?_
 have hin:=S.inLed ha hao (by
  cases q:G.h0.get? a with
  |none=>rfl
  |some o=>exact absurd (S.rep.off a (ac ha)) (S.ok.h0B a o q))
 refine vf (lR hin) λ pre post hl=>?_
 refine eA (lS hl) λ p1 p2=>?_
 have N:=nZ G.h0 C.env.locals s.heap
 rw[hl]at N
 refine nj A.ex λ p a1 a2 a3 a4 a5 a6 a7 a8 a9 a10 a11=>?_
 refine set_slot F S.ok.X0 N I a7 a8 a9 a10 a6 a11 rfl rfl (oX p2 p1) λ h' F' N'=>?_
 refine hQ ρ () h' _ (ah _) (S.updK F hm F' ha hl N' ?_) rfl
 refine⟨dx,_,hdx,rfl,λ k=>?_⟩
 rw[rG]
 by_cases hk:k=i
 ·subst hk
  rw[if_pos rfl,aH (aa.mp h1).1]
  exact⟨y,rfl,ry⟩
 ·rw[if_neg hk,ak (Ne.symm hk)]
  exact hsl k
end
noncomputable def AG (G:Gd)(f:AV->List AO->Option AV)(name:Str):Prop:=∀(C:Cx) (ρ:List Addr) (σ:AS) (s:Shared) (o v:AV) (x:Value),SR G C ρ σ s.heap->f o σ.st=some v->VR G.KT ρ o x->jS G C ρ (getAttr x name true) s v σ
noncomputable def AP (G:Gd)(f:AV->AV->List AO->Option (List AO))(name:Str):Prop:=∀(C:Cx) (ρ:List Addr) (σ:AS) (s:Shared) (o v:AV) (st':List AO) (x y:Value),SR G C ρ σ s.heap->f o v σ.st=some st'->VR G.KT ρ o x->VR G.KT ρ v y->va G C ρ (setAttr x name y) s ⟨st',σ.fr⟩
noncomputable def du (f:AV->List AO->Option AV)(a:EF):EF:=λ D σ=>(a D σ).b .no λ x σ1=>Op.b (f x σ1.st) .no λ v=>.ok v σ1
noncomputable def lZ (f:AV->AV->List AO->Option (List AO))(a:EF):GF:=λ D v σ=>(a D σ).b .no λ x σ1=>Op.b (f x v σ1.st) .no λ st'=>.ok ⟨st',σ1.fr⟩
noncomputable def fP (g:AV->List AO->Option AV)(p:AV->AV->List AO->Option (List AO))(op:Int->Int->RV->(Int->RV)->RV)(a b:EF):SF:=λ D σ=>(a D σ).b .no λ x σ1=>Op.b (g x σ1.st) .no λ old=>(b D σ1).b .no λ y σ2=>
 old.i .no λ m=>y.i .no λ n=>(op m n .no λ c=>fI c λ c=>.ok (.int c) σ2).b .no λ v σ3=>Op.b (p x v σ3.st) .no λ st'=>.nx ⟨st',σ3.fr⟩
section
variable{G:Gd}{N:Nm}
theorem cH {D:Addr}{i:Nat}{name:Str}(A:se G D i name):AG G (bO D i) name:=λ C ρ σ s o v x S e r=>wN A S e r
theorem eL {D:Addr}{i:Nat}{name:Str}(A:ll G D i name):AG G (cP D i) name:=λ C ρ σ s o v x S e r=>s9 A S e r
theorem iP {D:Addr}{i:Nat}{name:Str}(A:sd G D i name):AP G (hY D i) name:=λ C ρ σ s o v st' x y S e r q=>wM A S e r q
theorem gq {D:Addr}{i:Nat}{name:Str}(A:ll G D i name):AP G (dW D i) name:=λ C ρ σ s o v st' x y S e r q=>s8 A S e r q
theorem cQ {f:AV->List AO->Option AV}{name:Str}{a:EF}{e:PySem.Expr}{pos:Pos}(A:AG G f name)(ha:SE G N a e)(hb:∀env,attributeBase e name env (eval e env)=eval e env):SE G N (du f a) (.Attribute e name pos):=by
 intro C hC σ σ' v h ρ s S
 refine RV.elim h λ x σ1 h1 h=>?_
 refine Op.elim h λ w h2 h=>?_
 cases h
 intro E Q hQ
 refine Attribute_any_ (ha C hC _ _ _ h1 ρ s S E _ λ ρ1 u t'1 k'1 p'1 S'1 r'1=>?_) (by rw[arm_eval_Attribute,hb])
 exact A C ρ1 _ ⟨t'1,s.gens,s.drawn,k'1,s.os⟩ _ _ u S'1 h2 r'1 E Q λ ρ2 a t'2 k'2 p'2 S'2 r'2=>hQ ρ2 a t'2 k'2 (p'1.trans p'2) S'2 r'2
theorem iy {f:AV->AV->List AO->Option (List AO)}{name:Str}{a:EF}{e:PySem.Expr}{pos:Pos}(A:AP G f name)(ha:SE G N a e):SG G N (lZ f a) (.Attribute e name pos):=by
 intro C hC σ σ' v h ρ s z r S E Q hQ
 refine RV.elim h λ x σ1 h1 h=>?_
 refine Op.elim h λ w h2 h=>?_
 cases h
 rw[arm_assign_Attribute]
 refine wpAny_bind (wpAny_holding (ha C hC _ _ _ h1 ρ s S E _ λ ρ1 u t'1 k'1 p'1 S'1 r'1=>?_))
 refine wpAny_bind (wpAny_standAt (wpAny_bind (wpAny_holding ?_)))
 exact A C ρ1 _ ⟨t'1,s.gens,s.drawn,k'1,s.os⟩ _ _ _ u z S'1 h2 r'1 (r.mono p'1) E _ λ ρ2 a t'2 k'2 p'2 S'2 r'2=>wpAny_release (hQ ρ2 a t'2 k'2 (p'1.trans p'2) S'2 r'2)
theorem jT {g:AV->List AO->Option AV}{p:AV->AV->List AO->Option (List AO)}{op:Int->Int->RV->(Int->RV)->RV}{ope:Operator}{name:Str}{a b:EF}{e f:PySem.Expr}{tpos pos:Pos}(A:AG G g name)(B:AP G p name)
  (hf:∀m n k v σ,op m n .no k= .ok v σ->∃c,(∀(M:Program) (w:World) (A:Around) (E:Value->Shared->Prop) (Q:Value->Shared->Prop) (s:Shared) (t u:Nat),(∀tk tk',Q (.int c tk) {s with toks:=tk'})->wpAny (model M w) A (inplaceOp ope (.int m t) (.int n u)) Q E s)/\k c= .ok v σ)
  (ha:SE G N a e) (hb:SE G N b f):SS G N (fP g p op a b) (.AugAssign (.Attribute e name tpos) ope f pos):=by
 intro C hC σ h ρ s S E Q hQ
 generalize hr:fP g p op a b C.dn σ=r at h hQ
 refine RV.elim hr (hz:=Ne.symm h) λ x σ1 h1 e1=>?_
 refine Op.elim e1 (hz:=Ne.symm h) λ old h2 e2=>?_
 refine RV.elim e2 (hz:=Ne.symm h) λ y σ2 h3 e3=>?_
 refine AV.i_elim e3 (hz:=Ne.symm h) λ m hm e4=>?_
 refine AV.i_elim e4 (hz:=Ne.symm h) λ n hn e5=>?_
 refine RV.elim e5 (hz:=Ne.symm h) λ v σ3 h4 e6=>?_
 refine Op.elim e6 (hz:=Ne.symm h) λ st' h5 e7=>?_
 subst hm hn e7
 refine aQ (hf _ _ _ _ _ h4) λ c hc e8=>?_
 rw[ek]at e8
 cases e8
 refine wpAny_AugAssign_AttributeAny (ha C hC _ _ _ h1 ρ s S E _ λ ρ1 u t'1 k'1 p'1 S'1 r'1=>?_)
 refine A C ρ1 _ ⟨t'1,s.gens,s.drawn,k'1,s.os⟩ _ _ u S'1 h2 r'1 E _ λ ρ2 ov t'2 k'2 p'2 S'2 r'2=>?_
 refine hb C hC _ _ _ h3 ρ2 ⟨t'2,s.gens,s.drawn,k'2,s.os⟩ S'2 E _ λ ρ3 w t'3 k'3 p'3 S3 r'3=>?_
 refine eE (r'2.mono p'3) λ tu z1_=>?_;subst z1_
 refine eE r'3 λ tv z1_=>?_;clear r'3;subst z1_
 refine hc _ _ _ _ _ _ _ _ λ tk tk'=>?_
 exact B C ρ3 _ ⟨t'3,s.gens,s.drawn,tk',s.os⟩ _ _ _ u _ S3 h5 ((r'1.mono p'2).mono p'3) ⟨tk,rfl⟩ E _ λ ρ4 a t4 k'4 p'4 S4 r4=>hQ ρ4 _ t4 k'4 (p'1.trans (p'2.trans (p'3.trans p'4))) S4 rfl
structure lI (G:Gd) (D:Addr) (name:Str) (f:Addr):Prop where
 pg:plainGet G.K D name=true
 fi:findIn G.K (.ref D) name=some (some (.ref f))
 fn:isFn G.K (.ref f)=true
 kp:keepIn G.K (.ref f)=true
 no:name∉G.KT.ns D
noncomputable def bV (C0:Addr)(o:AV)(st:List AO):Bool:=dT o st false λ _ C j _=>bb (Nat.beq C C0) (eK j st false λ c _ _=>Nat.beq c C0) false
noncomputable def ir (D0:Addr)(f:CF)(a:EF)(l:LF):EF:=λ D σ=>(a D σ).b .no λ o σ1=>bb (bV D0 o σ1.st) ((l D σ1).b .no λ vs σ2=>f D (o::vs) σ2) .no
theorem pi {C:Cx}{ρ:List Addr}{σ:AS}{s:Shared}{D:Addr}{name:Str}{f:Addr}{o:AV}{x:Value}{pl:Sem Bool}{E:Value->Shared->Prop}{Q:Value×List Value->Shared->Prop}(M:lI G D name f)(S:SR G C ρ σ s.heap)(e:bV D o σ.st=true)(rx:VR G.KT ρ o x)(h:Q (.ref f,[x]) s):
  wpAny (model G.prog G.w) C.A (getMethod x name pl) Q E s:=by
 refine i_ (ey e (by nofun)) λ r D' j vals z1_ hst e1=>?_;subst z1_
 refine ay e1 λ hD e2=>?_
 refine kY (fU e2 (by nofun)) λ c vs b hj e3=>?_
 have hD:=aE hD
 have hc:=aE e3
 subst hD
 subst hc
 refine aQ rx λ a ha z1_=>?_;clear rx;subst z1_
 refine df (ig S ha hst hj) λ dx sl od _ _ _ z1_ _ I=>?_;obtain⟨es,n,rfl,_,hno,_⟩:=z1_
 refine aQ S.fr' λ m F _=>?_
 exact method_inst F S.ok.X0 I M.pg M.fi M.fn (hno name M.no) h
theorem mB {D:Addr}{name:Str}{f:Addr}{g:CF}{a:EF}{l:LF}{e x:PySem.Expr}{es:List PySem.Expr}{apos pos:Pos}(M:lI G D name f)(hg:SC G g (.ref f))(ha:SE G N a e)(hl:SL G N l (x::es))(hx:fA x)(hp:kx (x::es))
  (he:∀env,∃pl,eval (.Call (.Attribute e name apos) (x::es) [] pos) env=(do let ov ← eval e env;standAt apos.atName;let(f,first) ← holding [ov] (getMethod ov name pl);callWith pos f first (backTo pos (starEach (x::es) env)) (backToKw pos (keywordEach [] env)))):
  SE G N (ir D g a l) (.Call (.Attribute e name apos) (x::es) [] pos):=by
 intro C hC σ σ' v h ρ s S
 refine RV.elim h λ o σ1 h1 h=>?_
 refine ay h λ h2 h=>?_
 refine RS.elim h λ vs σ2 h3 h=>?_
 intro E Q hQ
 refine eE (he C.env) λ pl he=>?_
 refine methodCall_KW (pl:=pl) (ha C hC _ _ _ h1 ρ s S E _ λ ρ1 u t'1 k'1 p'1 S'1 r'1=>?_) he
 refine pi (s:=⟨t'1,s.gens,s.drawn,k'1,s.os⟩) M S'1 h2 r'1 ?_
 have hl':=hl C hC _ _ _ h3 ρ1 ⟨t'1,s.gens,s.drawn,k'1,s.os⟩ pos S'1 E
 have hp':=hp C.env pos
 rw[hx]at hl' hp' ⊢
 refine callWith_of (P:=λ h=>G.K.In h) (by show(List.any _ _||List.any [] _)=false;rw[hp'];rfl) (keeps_K M.kp) (evalArgs_plain (hl' _ λ ρ2 w t'2 k'2 p'2 S'2 r'2=>⟨S'2.kin,?_⟩))
 exact hg C _ _ _ _ h ρ2 ⟨t'2,s.gens,s.drawn,k'2,s.os⟩ _ (.cons (r'1.mono p'2) r'2) S'2 E Q λ ρ3 a t'3 k'3 p'3 S3 r'3=>hQ ρ3 a t'3 k'3 (p'1.trans (p'2.trans p'3)) S3 r'3
noncomputable def dZ (D0:Addr)(f:CF)(a:EF):EF:=λ D σ=>(a D σ).b .no λ o σ1=>bb (bV D0 o σ1.st) (f D [o] σ1) .no
theorem h_ {D:Addr}{name:Str}{f:Addr}{g:CF}{a:EF}{e:PySem.Expr}{apos pos:Pos}(M:lI G D name f)(hg:SC G g (.ref f))(ha:SE G N a e)
  (he:∀env,∃pl,eval (.Call (.Attribute e name apos) [] [] pos) env=(do let ov ← eval e env;standAt apos.atName;let(f,first) ← holding [ov] (getMethod ov name pl);callWith pos f first (backTo pos (starEach [] env)) (backToKw pos (keywordEach [] env)))):
  SE G N (dZ D g a) (.Call (.Attribute e name apos) [] [] pos):=by
 intro C hC σ σ' v h ρ s S
 refine RV.elim h λ o σ1 h1 h=>?_
 refine ay h λ h2 h=>?_
 intro E Q hQ
 refine eE (he C.env) λ pl he=>?_
 refine methodCall_KW (pl:=pl) (ha C hC _ _ _ h1 ρ s S E _ λ ρ1 u t'1 k'1 p'1 S'1 r'1=>?_) he
 refine pi (s:=⟨t'1,s.gens,s.drawn,k'1,s.os⟩) M S'1 h2 r'1 ?_
 refine callWith_of (P:=λ h=>G.K.In h) rfl (keeps_K M.kp) (evalArgs_nil3 ⟨S'1.kin,?_⟩)
 exact hg C _ _ _ _ h ρ1 ⟨t'1,s.gens,s.drawn,k'1,s.os⟩ _ (.cons r'1 .nil) S'1 E Q λ ρ3 a t'3 k'3 p'3 S3 r'3=>hQ ρ3 a t'3 k'3 (p'1.trans p'3) S3 r'3
end
noncomputable def oH (D0:Addr)(na ks np n:Nat)(dA:List AV)(b:SF):CF:=λ D vs σ=>bb (Nat.beq (Nat.succ vs.length) np) (Nat.rec (motive:=λ _=>RV) .no (λ d _=>Nat.rec (motive:=λ _=>RV) .no (λ d _=>
 RF.rec (motive:=λ _=>RV) .no (λ σ'=>.ok (.ref (Nat.succ σ.st.length)) ⟨σ'.st,σ.fr⟩) (λ _=>.no) (λ _=>.no) (λ _ _=>.no)
  (b ⟨[],d,D.hn,D.kt⟩ ⟨σ.st++[.attrs D0 (List.replicate na none) 0]++[.inst D0 σ.st.length (List.replicate ks none)],f_ (.ref (Nat.succ σ.st.length)::(vs++dA)) n⟩)) d) D.d) .no
structure NewAt (G:Gd) (D0:Addr) (f:Addr):Prop where
 can:makesIn G.K D0=true
 ini:findIn G.K (.ref D0) "__init__"=some (some (.ref f))
 fn:typeIn G.K (.ref f)=some (.type "function")
theorem ri (a:Args):Code.weight (.builtin "type.__call__" a)<=1:=by
 unfold Code.weight
 have h1:Code.frames (.builtin "type.__call__" a)=0:=by first|rfl|(simp only[Code.frames];decide+kernel)
 have h2:Code.isGuard (.builtin "type.__call__" a)=false:=by first|rfl|(simp only[Code.isGuard];decide+kernel)
 have h3:Code.isCaller (.builtin "type.__call__" a)=false:=by first|rfl|(simp only[Code.isCaller];decide+kernel)
 rw[h1,h2,h3]
 split<;>simp
theorem rj (A:Around)(a:Args):(A.under (.builtin "type.__call__" a)).frames=A.frames:=rfl
theorem sK (a:Args):Code.cUnits (.builtin "type.__call__" a)<=4:=by
 have:Code.cUnits (.builtin "type.__call__" a)=Code.cUnits (.builtin "type.__call__" ⟨[],[]⟩):=rfl
 rw[this]
 decide+kernel
theorem SR.base {G:Gd}{C:Cx}{ρ:List Addr}{σ:AS}{h:Heap}(S:SR G C ρ σ h):∃oL,Rep G.KT (C.B.add C.env.locals oL) ρ σ.st h/\(lw (C.B.add C.env.locals oL) C.env.locals/\∀a,lw C.B a->lw (C.B.add C.env.locals oL) a)/\(C.B.add C.env.locals oL) sysModules≠none/\(∀a o,G.h0.get? a=some o->(C.B.add C.env.locals oL) a≠none)/\
  ∀ρ' st' h',ρ<+:ρ'->Rep G.KT (C.B.add C.env.locals oL) ρ' st' h'->SR G C ρ' ⟨st',σ.fr⟩ h':=by
 refine aQ S.fr λ m hns hfr=>?_
 refine eX (id hns) λ oL es ep hoL hdL _=>?_
 refine⟨oL,S.rep.addB hoL S.Lρ,qH hdL S.ok.Lb,?_,λ b o e=>?_,λ ρ' st' h' p R'1=>?_⟩
 ·show(if sysModules=C.env.locals then some (BO.da oL.data)else C.B sysModules)≠none
  split<;>first|exact S.ok.sm|nofun
 ·show(if b=C.env.locals then some (BO.da oL.data)else C.B b)≠none
  split<;>first|exact S.ok.h0B b o e|nofun
 ·refine fT (R'1.dropB S.ok.Lb) λ R'2 g hL=>?_
  refine⟨R'2,⟨m,jX hns hoL g,λ i v e=>?_⟩,hL,S.cells.mono p,S.ok⟩
  ·refine bR (hfr i v e) λ x v' c d r=>?_
   exact⟨x,v',c,d,r.mono p⟩
theorem CxOk.withA {G:Gd}{C:Cx}(ok:CxOk G C){A:Around}{d:Nat}(h1:A.depth+d<recursionLimit)(h2:A.units+8*d+200<cLine)(h3:A.handled=C.A.handled)(h4:A.frames=C.A.frames):CxOk G {C with A:=A,d:=d}:=
 ⟨ok.fn,ok.gl,ok.bi,ok.nd,ok.loc,ok.dbg,ok.Lb,ok.glo,h1,h2,λ q=>h3.trans (ok.hh q),ok.kin,ok.top,ok.tab,ok.b0,ok.ab,ok.sm,ok.h0B,ok.X0,ok.T0,ok.ktok,by refine aQ ok.fl λ l q1 q2=>?_;exact⟨l,h4.trans q1,q2⟩⟩
section
variable{G:Gd}{N:Nm}{np n:Nat}{f:Addr}{fd:FuncData}{body:List Stmt}{b:SF}
theorem th {D0:Addr}{na ks np0:Nat}{dA:List AV}{dV:List Value}(L:NewAt G D0 f)(hna:(G.KT.ns D0).length<=na)(F:DefB G N np f fd body)(hb:fw G N b body)(hdv:VRs G.KT [] dA dV)(hnp:np0+dA.length=np)
  (hbi:∀(s:Shared) (xs:List Value),G.K.In s.heap->xs.length=np0->BindsTo s fd ⟨xs,[]⟩ (List.zip (N.vn.take np) (xs++dV))):SC G (oH D0 na ks np0 n dA b) (.ref D0):=by
 intro C σ σ' vs v h ρ s xs r S E Q hQ
 refine ay h λ hl h=>?_
 have hl:(AV.ref (Nat.succ σ.st.length)::vs).length=np0:=aE hl
 rcases hd:C.d with _|_|d
 ·rw[show C.dn.d=0 from hd]at h;cases h
 ·rw[show C.dn.d=1 from hd]at h;cases h
 rw[show C.dn.d=d+1+1 from hd]at h
 change (RF.rec (motive:=λ _=>RV) .no (λ σ'=>.ok (.ref (Nat.succ σ.st.length)) ⟨σ'.st,σ.fr⟩) (λ _=>.no) (λ _=>.no) (λ _ _=>.no)
  (b ⟨[],d,C.hn,C.kt⟩ ⟨σ.st++[.attrs D0 (List.replicate na none) 0]++[.inst D0 σ.st.length (List.replicate ks none)],f_ (.ref (Nat.succ σ.st.length)::(vs++dA)) n⟩):RV)= .ok v σ' at h
 generalize hq:b ⟨[],d,C.hn,C.kt⟩ ⟨σ.st++[.attrs D0 (List.replicate na none) 0]++[.inst D0 σ.st.length (List.replicate ks none)],f_ (.ref (Nat.succ σ.st.length)::(vs++dA)) n⟩=q at h
 obtain⟨hh,gg,dr,tt,os⟩:=s
 have p1:=S.push (ob:=emptyDict) (o:=.attrs D0 (List.replicate na none) 0) rfl ⟨[],0,rfl,Nat.le_refl _,λ x _=>rfl,λ i x e=>by
  have hi:i<na:=aN (aa.mp e).1 hna
  rw[bX,if_pos hi];exact rfl⟩
 have e1:(hh.push emptyDict).objs.size=hh.objs.size+1:=Heap.size_push ..
 have hρl:ρ.length=σ.st.length:=S.rep.len
 have p2:=p1.push (ob:=instObj D0 hh.objs.size) (o:=.inst D0 σ.st.length (List.replicate ks none)) rfl ⟨hh.objs.size,#[],by
  rw[← hρl,aR,az (Nat.le_refl _)];simp,rfl,λ i=>by
  rw[bX];split<;>trivial⟩
 have ok:=S.ok
 have w1:Code.weight (.builtin "type.__call__" ⟨.ref D0::xs,[]⟩)<=1:=ri _
 have w2:Code.cUnits (.builtin "type.__call__" ⟨.ref D0::xs,[]⟩)<=4:=sK _
 refine wpAny_call (make_core (makes_of S.kin L.can) (looks_findIn S.kin L.ini) (λ self=>bind_fn S.kin self L.fn) (.inl rfl) ?_)
 have ok2:CxOk G {C with A:=C.A.under (.builtin "type.__call__" ⟨.ref D0::xs,[]⟩),d:=d+1}:=by
  refine ok.withA ?_ ?_ rfl (rj _ _)
  ·show C.A.depth+Code.weight _+(d+1)<recursionLimit
   have:=ok.dep
   exact ω26 this w1 hd
  ·show C.A.units+Code.cUnits _+8*(d+1)+200<cLine
   have:=ok.uni
   exact ω27 this w2 hd
 refine iM p2.base λ oL R' b0 b1 b2 back=>?_
 have rr:VRs G.KT (ρ++[hh.objs.size]++[(hh.push emptyDict).objs.size]) (.ref (Nat.succ σ.st.length)::(vs++dA)) (.ref (hh.objs.size+1)::(xs++dV)):=by
  refine .cons ⟨hh.objs.size+1,?_,rfl⟩ ((r.mono (by rw[aR];exact ai _ _)).append (hdv.mono (List.nil_prefix ..)))
  rw[e1,aR,az (by exact ω23 hρl),← hρl]
  simp
 refine k6 F hb ok2 (d:=d) (Nat.le_refl _) (hn':=C.hn) id (kt':=C.kt) ok.ktok (s:=⟨(hh.push emptyDict).push (instObj D0 hh.objs.size),gg,dr,tt,os⟩) (Nat.le_trans ok.ab (Nat.le_of_lt p2.lnlt)) b1 b2 (λ h k=>k.of_addB ok.Lb) b0 R' (by simp at hl ⊢;exact ω24 hl hnp) rr (hbi _ (.ref (hh.objs.size+1)::xs) (ok.kin _ (R'.kept.of_addB ok.Lb)) (by have:=r.length;simp at hl ⊢;exact ω25 hl this)) hq (λ e=>by rw[e]at h;cases h) λ ρ' a h' tk' p R'1 ra=>?_
 have S'1:=back ρ' _ h' p R'1
 cases q with
 |no=>cases h
 |br=>cases h
 |ct=>cases h
 |rt=>cases h
 |nx σ1=>
  cases h
  cases ra
  refine⟨rfl,?_⟩
  refine hQ ρ' _ h' tk' (List.IsPrefix.trans (by rw[aR];exact ai _ _) p) S'1 ?_
  exact((show VR G.KT _ (.ref (Nat.succ σ.st.length)) (.ref (hh.objs.size+1))from by cases rr;assumption).mono p)
end
noncomputable def cu (a:EF):SF:=λ D σ=>(a D σ).b .no λ _ σ1=>.nx σ1
section
variable{G:Gd}{N:Nm}
theorem gw {C:Cx}(ok:CxOk G C):interactive C.env=false:=by
 unfold interactive
 simp[ok.fn]
theorem dg {a:EF}{e:PySem.Expr}{p:Pos}(ha:SE G N a e)(hs:∀env n,swapsWith e none n env=pure false):SS G N (cu a) (.Expr e p):=by
 intro C hC σ h ρ s S E Q hQ
 generalize hr:cu a C.dn σ=r at h hQ
 refine ez (RV.inv hr (Ne.symm h)) λ x σ1 h1 e1=>?_
 subst e1
 exact wpAny_Expr_any (ha C hC _ _ _ h1 ρ s S E _ λ ρ1 u t'1 k'1 p'1 S'1 r'1=>hQ ρ1 _ t'1 k'1 p'1 S'1 rfl) (gw S.ok) (hs _ _)
end
structure CL where
 t:GF
 it:EF
 ifs:TF
noncomputable def AO.l {β:Type}(o:AO)(n:β)(k:List AV->β):β:=AO.casesOn (motive:=λ _=>β) o n k (λ _=>n) (λ _ _ _=>n) (λ _=>n) (λ _ _ _=>n) (λ _ _=>n) (λ _ _ _=>n) (λ _ _ _=>n) (λ _ _=>n) (λ _=>n) (λ _=>n)
theorem AO.l_inv {β:Type}{n z:β}{o:AO}{k:List AV->β}(h:o.l n k=z)(hz:n≠z):∃xs,o= .list xs/\k xs=z:=by
 cases o<;>first|exact absurd h hz|exact⟨_,rfl,h⟩
noncomputable def eP (n:Nat)(t:GF)(ifs:TF)(body:Dn->AS->RU)(D:Dn)(it:IT):Nat->AS->RU:=Nat.rec (motive:=λ _=>Nat->AS->RU) (λ _ _=>.no)
 (λ _ ih k σ=>Op.b (b7 it k σ.st) .no λ z=>Option.rec (motive:=λ _=>RU) (.ok σ) (λ v=>(t D v σ).b .no λ σ1=>(ifs D σ1).b .no λ c σ2=>bb c ((body D σ2).b .no (ih (Nat.succ k))) (ih (Nat.succ k) σ2)) z) n
noncomputable def qP (e:EF)(acc:Nat):Dn->AS->RU:=λ D σ=>(e D σ).b .no λ v σ1=>Op.b (cy σ1.st acc) .no λ o=>o.l .no λ xs=>bb (Nat.ble xs.length big) (.ok ⟨cr σ1.st acc (.list (xs++[v])),σ1.fr⟩) .no
noncomputable def hJ (n:Nat)(e:EF)(acc:Nat)(cls:List CL):Dn->AS->RU:=List.rec (motive:=λ _=>Dn->AS->RU) (qP e acc)
 (λ c _ ih=>λ D σ=>(c.it D σ).b .no λ x σ1=>Op.b (cF D.kt x σ1.st) .no λ it=>eP n c.t c.ifs ih D it 0 σ1) cls
section
variable(G:Gd)(N:Nm)
noncomputable def oZ (ifs:List PySem.Expr)(env:Env):Sem Bool:=forIn ifs true λ c r=>if r=true then do let ok ← isTrue c env (eval c env);pure (ForInStep.yield ok)else pure (ForInStep.yield r)
noncomputable def zH (f:TF)(ifs:List PySem.Expr):Prop:=∀(C:Cx),C.is N->∀(σ σ':AS) (b:Bool),f C.dn σ= .ok b σ'->∀(ρ:List Addr) (s:Shared),SR G C ρ σ s.heap->RuB G C ρ (oZ ifs C.env) s b σ'
structure ClOk (c:CL) (g:Comprehension):Prop where
 t:SG G N c.t g.target
 it:SE G N c.it g.iter
 ifs:zH G N c.ifs g.ifs
 na:g.is_async=0
 hl:∀it v,letOwnedTupleGo g.target it v=pure ()
 hf:∀env x,foldedSetIterable g.iter env x=pure x
inductive lq:List CL->List Comprehension->Prop
 |nil:lq [] []
 |cons {c g cs gs}:ClOk G N c g->lq cs gs->lq (c::cs) (g::gs)
end
section
variable{G:Gd}{N:Nm}
theorem h9:zH G N c8 []:=by
 intro C hC σ σ' b h ρ s S E Q hQ
 cases h
 exact wpAny_tests_nil (hQ ρ _ s.heap s.toks (ah _) S rfl)
theorem p9 {t:TF}{e:PySem.Expr}(ht:ST G N t e):zH G N t [e]:=by
 intro C hC σ σ' b h ρ s S E Q hQ
 exact wpAny_tests_one (ht C hC _ _ _ h ρ s S E Q hQ)
noncomputable def j8 (elt:PySem.Expr)(gens:List Comprehension)(e:PySem.Expr)(depth:Nat)(acc:Value)(env:Env):Sem Unit:=
 match gens[depth+1]? with
 |some g'=>do
  let x ← eval g'.iter env
  standAt g'.iter.pos
  let x ← if g'.is_async != 0 then foldedIterable g'.iter x else foldedSetIterable g'.iter env x
  let _ ← runOwn (.compStart e (depth+1) (← holding [x] (if g'.is_async != 0 then asyncIter x else pyIter x)) acc env) env
 |none=>do let _ ← call (.builtin "list.append") [acc,← eval elt env]
section
variable{prog:Program}{w:World}{A:Around}{R:Result->Shared->Prop}{s:Shared}
theorem nu {elt:PySem.Expr}{gens:List Comprehension}{scope:Scope}{pos:Pos}{depth:Nat}{it acc:Value}{env:Env}{g:Comprehension}(hg:gens[depth]? =some g)(ha:g.is_async=0):
  compTurn (.ListComp elt gens scope pos) depth it acc env=(do
   standAt g.iter.pos
   match ← pyNext it with
   |none=>pure (.done .next)
   |some v=>
    letOwnedTupleGo g.target it v
    assign g.target env v
    let ok ← oZ g.ifs env
    if ok then do
     j8 elt gens (.ListComp elt gens scope pos) depth acc env
     again (.compLoop (.ListComp elt gens scope pos) depth it acc env)
    else again (.compLoop (.ListComp elt gens scope pos) depth it acc env)):=by
 unfold compTurn
 simp only[hg,ha]
 simp only[bne_self_eq_false,Bool.false_eq_true,if_false]
 refine congrArg _ (funext λ _=>congrArg _ (funext λ r=>?_))
 cases r with
 |none=>rfl
 |some v=>
  dsimp only
  refine congrArg _ (funext λ _=>congrArg _ (funext λ _=>congrArg _ (funext λ ok=>?_)))
  unfold j8
  cases ok with
  |false=>rfl
  |true=>
   simp only[if_true]
   cases gens[depth+1]? with
   |none=>rfl
   |some g'=>
    simp only[bind_assoc]
    cases g'.is_async != 0<;>simp only[Bool.false_eq_true,if_false,if_true,bind_assoc,pure_bind]
end
end
section
variable{prog:Program}{w:World}{A:Around}{R:Result->Shared->Prop}{s:Shared}
theorem hM {elt:PySem.Expr}{gens:List Comprehension}{scope:Scope}{pos:Pos}{depth:Nat}{it acc:Value}{env:Env}{g:Comprehension}(hg:gens[depth]? =some g)(ha:g.is_async=0)(I:Nat->Shared->Prop)
  (turn:∀n s,I n s->wpAny (model prog w) A (pyNext it) (λ r s'1=>match r with
   |none=>R (.ok .next) s'1
   |some v=>wpAny (model prog w) A (assign g.target env v) (λ _ s'2=>
     wpAny (model prog w) A (oZ g.ifs env) (λ ok s'3=>
      if ok=true then wpAny (model prog w) A (j8 elt gens (.ListComp elt gens scope pos) depth acc env) (λ _ s'5=>∃m,m<n/\I m s'5) (notedBy (model prog w) A env λ e s'=>R (.error e) s') s'3
      else∃m,m<n/\I m s'3) (notedBy (model prog w) A env λ e s'=>R (.error e) s') s'2) (notedBy (model prog w) A env λ e s'=>R (.error e) s') s'1) (notedBy (model prog w) A env λ e s'=>R (.error e) s') s)
  (n:Nat) (h:I n s) (ht:∀v,letOwnedTupleGo g.target it v=pure ()):
  codeAny (model prog w) A (.compLoop (.ListComp elt gens scope pos) depth it acc env) R s:=by
 refine codeAny_loop rfl I (λ n s hI=>?_) n h
 show wpAny _ A ((compTurn (.ListComp elt gens scope pos) depth it acc env).onRaise (λ x=>do noteFrame x env;theTreesLotGoes x)) _ _ s
 refine wpAny_noted ?_
 rw[nu hg ha]
 refine wpAny_bind (wpAny_standAt (wpAny_bind (wpAny_mono (turn n s hI) (λ r s'1 h'1=>?_) λ _ _ h'=>h')))
 cases r with
 |none=>exact wpAny_pure h'1
 |some v=>
  refine wpAny_bind (wpAny_of_eq (ht v) ?_)
  refine wpAny_bind (wpAny_mono h'1 (λ _ s'2 h'2=>wpAny_bind (wpAny_mono h'2 (λ ok s'3 h'3=>?_) λ _ _ h'=>h')) λ _ _ h'=>h')
  cases ok with
  |false=>exact wpAny_pure ⟨rfl,h'3⟩
  |true=>exact wpAny_bind (wpAny_mono h'3 (λ x s'4 h'4=>wpAny_pure ⟨rfl,h'4⟩) λ _ _ h'=>h')
theorem eo {elt:PySem.Expr}{gens:List Comprehension}{scope:Scope}{pos:Pos}{depth:Nat}{it acc:Value}{env:Env}{g:Comprehension}(hg:gens[depth]? =some g)(ha:g.is_async=0)
  (h0:codeAny (model prog w) A (.compLoop (.ListComp elt gens scope pos) depth it acc env) R s)
  (h:wpAny (model prog w) A (pyIter it) (λ it' s'=>codeAny (model prog w) A (.compLoop (.ListComp elt gens scope pos) depth it' acc env) R s')
   (notedBy (model prog w) A env λ x s'=>R (.error x) s') s):
  codeAny (model prog w) A (.compStart (.ListComp elt gens scope pos) depth it acc env) R s:=by
 refine codeAny_of_tree ?_
 show wpAny _ _ ((compStart (.ListComp elt gens scope pos) depth it acc env).onRaise (λ x=>do noteFrame x env;standAt theWindowsPlace)) _ _ s
 refine wpAny_notedAt ?_
 unfold compStart
 have e1:((clausesOf (.ListComp elt gens scope pos))[depth]?)=some g:=hg
 simp only[e1,Option.elim,ha,bne_self_eq_false,Bool.false_eq_true,if_false]
 refine wpAny_bind (wpAny_askSetting (wpAny_ite ?_))
 split
 ·first
   |exact wpAny_bind (wpAny_pure (wpAny_pure (And.intro rfl h0)))
   |exact wpAny_pure (And.intro rfl h0)
   |exact wpAny_bind (wpAny_bind (wpAny_pure (wpAny_pure (wpAny_pure (And.intro rfl h0)))))
 ·first
   |exact wpAny_bind (wpAny_rule (wpAny_bind (wpAny_standAt (wpAny_bind (wpAny_mono h (λ it' s' h'=>wpAny_pure (And.intro rfl h')) λ _ _ x=>x)))))
   |(refine wpAny_bind (wpAny_rule ?_);exact wpAny_bind (wpAny_standAt (wpAny_bind (wpAny_mono h (λ it' s' h'=>wpAny_pure (And.intro rfl h')) λ _ _ x=>x))))
end
section
variable{G:Gd}{N:Nm}
theorem lO {C:Cx}{ρ:List Addr}{σ:AS}{s:Shared}{I:IT}{k:Nat}{it:Addr}{ob:Obj}{E Q:Value->Shared->Prop}(hit:s.heap.get? it=some ob)(hI:ItO G ρ I k ob)(h:Q (.ref it) s):wpAny (model G.prog G.w) C.A (pyIter (.ref it)) Q E s:=by
 cases I with
 |li r=>refine bW hI λ a e hc hd=>?_;exact wpAny_pyIter_listiter ⟨ob,hit,hc,hd⟩ h
 |tu r=>refine bW hI λ a e hc hd=>?_;exact wpAny_pyIter_tupleiter ⟨ob,hit,hc,hd⟩ h
 |kt i xs=>refine bW hI λ a e hc hd=>?_;exact wpAny_pyIter_tupleiter ⟨ob,hit,hc,hd⟩ h
 |rg a c n=>
  rw[show ob=_ from hI]at hit
  exact wpAny_pyIter_rangeiter (x:=a+(k:Int)*c) (left:=(n:Int) - (k:Int)) (step:=c) hit h
 |dk r n ep=>refine bW hI λ a e hc hd=>?_;exact wpAny_pyIter_keyiter ⟨ob,hit,hc,hd⟩ h
 |dv r n ep=>refine bW hI λ a e hc hd=>?_;exact wpAny_pyIter_valiter ⟨ob,hit,hc,hd⟩ h
noncomputable def Bok (G:Gd)(N:Nm)(body:Dn->AS->RU)(acc:Nat)(tree:Value->Env->Sem Unit):Prop:=
 ∀(C:Cx),C.is N->C.A.handled=none->∀(σ σ':AS),body C.dn σ= .ok σ'->∀(ρ:List Addr) (s:Shared) (aA:Addr),ρ[acc]? =some aA->SR G C ρ σ s.heap->va G C ρ (tree (.ref aA) C.env) s σ'
noncomputable def xV (G:Gd)(C:Cx)(ρ:List Addr)(s:Shared)(it:Addr)(I:IT)(t:GF)(ifs:TF)(body:Dn->AS->RU)(σ':AS)(n:Nat)(s':Shared):Prop:=∃ρ' σ0 h' tk' k ob,s'={s with heap:=h',toks:=tk'}/\ρ<+:ρ'/\SR G C ρ' σ0 h'/\h'.get? it=some ob/\ItO G ρ' I k ob/\it∉ρ'/\eP n t ifs body C.dn I k σ0= .ok σ'
theorem oA {n:Nat}{t:GF}{ifs:TF}{body:Dn->AS->RU}{acc:Nat}{elt:PySem.Expr}{gens:List Comprehension}{scope:Scope}{pos:Pos}{depth:Nat}{g:Comprehension}(hg:gens[depth]? =some g)(ha:g.is_async=0)
  (ht:SG G N t g.target) (hi:zH G N ifs g.ifs) (hlet:∀it v,letOwnedTupleGo g.target it v=pure ()) (hb:Bok G N body acc (λ a env=>j8 elt gens (.ListComp elt gens scope pos) depth a env))
  {C:Cx} (hC:C.is N) {σ σ':AS} {I:IT} (hr:eP n t ifs body C.dn I 0 σ= .ok σ') {ρ:List Addr} {s:Shared} {it aA:Addr} {ob:Obj} (haA:ρ[acc]? =some aA) (S:SR G C ρ σ s.heap) (hh:C.A.handled=none) (hit:s.heap.get? it=some ob) (hI:ItO G ρ I 0 ob) (hρ:it∉ρ) (hL:it≠C.env.locals) (hB:C.B it=none)
  (Q:Result->Shared->Prop) (hQ:∀ρ' h' tk',ρ<+:ρ'->SR G C ρ' σ' h'->Q (.ok .next) {s with heap:=h',toks:=tk'}):
  codeAny (model G.prog G.w) C.A (.compLoop (.ListComp elt gens scope pos) depth (.ref it) (.ref aA) C.env) Q s:=by
 refine hM hg ha (I:=xV G C ρ s it I t ifs body σ') ?_ n ⟨ρ,σ,s.heap,s.toks,0,ob,rfl,ah _,S,hit,hI,hρ,hr⟩ (hlet _)
 rintro n _ ⟨ρ',σ0,h',tk',k,ob,rfl,p'0,S',hit',hI',hρ',hr'⟩
 cases n with
 |zero=>cases hr'
 |succ n=>
  have hr2:(Op.b (b7 I k σ0.st) .no λ z=>Option.rec (motive:=λ _=>RU) (.ok σ0) (λ v=>(t C.dn v σ0).b .no λ σ1=>(ifs C.dn σ1).b .no λ c σ2=>bb c ((body C.dn σ2).b .no (eP n t ifs body C.dn I (Nat.succ k))) (eP n t ifs body C.dn I (Nat.succ k) σ2)) z)=RU.ok σ':=hr'
  refine Op.elim hr2 λ z hz hr3=>?_
  refine jY (s:=⟨h',s.gens,s.drawn,tk',s.os⟩) S' hh hit' hI' hz ?_ ?_
  ·rintro rfl h'1 he
   have S'1:SR G C ρ' σ0 h'1:=S'.extBut he hρ' hL hB
   have hr4:RU.ok σ0= .ok σ':=hr3
   cases hr4
   exact hQ ρ' h'1 tk' p'0 S'1
  ·rintro v rfl x h'1 tk1 ob'1 he hob hI1 rx
   have S'1:SR G (C.add it ob'1) ρ' σ0 h'1:=(S'.extBut he hρ' hL hB).add hob hρ' hL hB
   have hr4:((t C.dn v σ0).b .no λ σ1=>(ifs C.dn σ1).b .no λ c σ2=>bb c ((body C.dn σ2).b .no (eP n t ifs body C.dn I (Nat.succ k))) (eP n t ifs body C.dn I (Nat.succ k) σ2))=RU.ok σ':=hr3
   refine RU.elim hr4 λ σ1 h1 hr5=>?_
   refine RB.elim hr5 λ c σ2 h2 hr6=>?_
   refine ht (C.add it ob'1) hC _ _ _ h1 ρ' ⟨h'1,s.gens,s.drawn,tk1,s.os⟩ x rx S'1 _ _ λ ρ1 u t'1 k'1 p'1 S'2 _=>?_
   refine hi (C.add it ob'1) hC _ _ _ h2 ρ1 ⟨t'1,s.gens,s.drawn,k'1,s.os⟩ S'2 _ _ λ ρ2 ok t'2 k'2 p'2 S3 r'3=>?_
   cases(r'3)
   have go:∀ρ3 σ3 t'3 k'3,ρ2<+:ρ3->SR G (C.add it ob'1) ρ3 σ3 t'3->eP n t ifs body C.dn I (Nat.succ k) σ3= .ok σ'->∃m,m<n+1/\xV G C ρ s it I t ifs body σ' m {s with heap:=t'3,toks:=k'3}:=by
    intro ρ3 σ3 t'3 k'3 p'3 S4 e
    refine fT (S4.drop S.ok hB) λ S5 g q=>?_
    exact⟨n,Nat.lt_succ_self n,ρ3,σ3,t'3,k'3,k+1,ob'1,rfl,p'0.trans (p'1.trans (p'2.trans p'3)),S5,g,hI1.mono (p'1.trans (p'2.trans p'3)),q,e⟩
   cases c with
   |false=>
    rw[if_neg (by nofun)]
    exact go ρ2 _ t'2 k'2 (ah _) S3 hr6
   |true=>
    rw[if_pos rfl]
    refine RU.elim (show((body C.dn σ2).b .no (eP n t ifs body C.dn I (Nat.succ k)))=RU.ok σ' from hr6) λ σ3 h3 hr7=>?_
    refine hb (C.add it ob'1) hC hh _ _ h3 ρ2 ⟨t'2,s.gens,s.drawn,k'2,s.os⟩ aA (cx (p'0.trans (p'1.trans p'2)) haA) S3 _ _ λ ρ3 _ t'3 k'3 p'3 S4 _=>?_
    exact go ρ3 _ t'3 k'3 p'3 S4 hr7
theorem uS {n:Nat}{e:EF}{acc:Nat}{elt:PySem.Expr}{gens:List Comprehension}{scope:Scope}{pos:Pos}(he:SE G N e elt):
  ∀(cls:List CL) (gs:List Comprehension) (depth:Nat),gens.drop (depth+1)=gs->lq G N cls gs->Bok G N (hJ n e acc cls) acc (λ a env=>j8 elt gens (.ListComp elt gens scope pos) depth a env):=by
 intro cls
 induction cls with
 |nil=>
  intro gs depth hgs hcl C hC hh σ σ' h ρ s aA haA S E Q hQ
  dsimp only
  cases hcl
  have e1:gens[depth+1]? =none:=by
   rw[aK]
   exact List.drop_eq_nil_iff.mp hgs
  unfold j8
  rw[e1]
  refine RV.elim (show qP e acc C.dn σ= .ok σ' from h) λ v σ1 h1 h=>?_
  refine Op.elim h λ o h2 h=>?_
  obtain⟨xs,rfl,h⟩:=AO.l_inv h (by nofun)
  refine ay h λ hz h=>?_
  rw[aS]at h2
  rw[bw]at h
  cases h
  refine wpAny_bind (he C hC _ _ _ h1 ρ s S E _ λ ρ1 u t'1 k'1 p'1 S'1 r'1=>?_)
  have haA1:=cx p'1 haA
  refine bC (S'1.obj haA1 h2) λ ob ho vs m z1_ rv=>?_;subst z1_
  have hz:=bA hz
  unfold big at hz
  refine wpAny_bind (call_meets (s:=⟨t'1,s.gens,s.drawn,k'1,s.os⟩) F.slot_list_append ⟨_,ho,rfl⟩ F.entry_list_append (F.args_list_append_2 _ _) (PySem.list_append aA vs m _ (by rw[sizeLine_eq];have:=rv.length;simp at this;exact ω32 this hz)) ⟨ho,?_⟩)
  refine wpAny_pure (hQ ρ1 _ _ _ p'1 (S'1.upd haA1 (bq ..) ⟨_,IsL.update ho _,vs.push u,_,rfl,?_⟩) rfl)
  rw[Array.toList_push]
  exact rv.append (.cons r'1 .nil)
 |cons c cls ih=>
  intro gs depth hgs hcl C hC hh σ σ' h ρ s aA haA S E Q hQ
  dsimp only
  cases hcl with
  |@cons _ g _ gs' hc hcl=>
  have e1:gens[depth+1]? =some g:=by
   have:(gens.drop (depth+1))[0]? =some g:=by rw[hgs];rfl
   simpa using this
  have hgs':gens.drop (depth+1+1)=gs':=by
   rw[← List.drop_drop,hgs];rfl
  refine RV.elim (show((c.it C.dn σ).b .no λ x σ1=>Op.b (cF C.kt x σ1.st) .no λ it=>eP n c.t c.ifs (hJ n e acc cls) C.dn it 0 σ1)=RU.ok σ' from h) λ x σ1 h1 h=>?_
  refine Op.elim h λ I h2 h=>?_
  unfold j8
  rw[e1]
  simp only[hc.na,bne_self_eq_false,Bool.false_eq_true,if_false]
  refine wpAny_bind (hc.it C hC _ _ _ h1 ρ s S E _ λ ρ1 u t'1 k'1 p'1 S'1 r'1=>wpAny_bind (wpAny_standAt (wpAny_bind (wpAny_of_eq (hc.hf _ _) ?_))))
  refine wpAny_bind (wpAny_holding (i6 (s:=⟨t'1,s.gens,s.drawn,k'1,s.os⟩) S'1 h2 r'1 λ ob h' hI ho' hk=>?_))
  refine fT S'1.new λ n1 n2 n3=>?_
  have S'2:=S'1.ext hk
  refine wpAny_bind (wpAny_runOwn ?_)
  have loop:∀Q':Result->Shared->Prop,(∀ρ' h'' tk',ρ1<+:ρ'->SR G C ρ' σ' h''->Q' (.ok .next) ⟨h'',s.gens,s.drawn,tk',s.os⟩)->codeAny (model G.prog G.w) C.A (.compLoop (.ListComp elt gens scope pos) (depth+1) (.ref t'1.objs.size) (.ref aA) C.env) Q' ⟨h',s.gens,s.drawn,k'1,s.os⟩:=λ Q' hQ'=>
   oA (body:=hJ n e acc cls) (acc:=acc) e1 hc.na hc.t hc.ifs hc.hl (ih _ _ hgs' hcl) hC h (cx p'1 haA) S'2 hh ho' hI n1 n2 n3 _ hQ'
  refine eo e1 hc.na (loop _ ?_) (lO (C:=C) (σ:=σ1) ho' hI (loop _ ?_))
  ·exact λ ρ2 h'2 tk2 p'2 S3=>wpAny_pure (hQ ρ2 _ h'2 tk2 (p'1.trans p'2) S3 rfl)
  ·exact λ ρ2 h'2 tk2 p'2 S3=>wpAny_pure (hQ ρ2 _ h'2 tk2 (p'1.trans p'2) S3 rfl)
end
inductive VK where
 |loc|new (j:Nat)|old (i:Nat)
deriving DecidableEq
noncomputable def fo (vk:List VK)(cs:List (Option Nat))(b:Nat):Option (List (Option Nat)):=List.rec (motive:=λ _=>Option (List (Option Nat))) (some []) (λ v _ ih=>Op.b ih none λ r=>VK.rec (motive:=λ _=>Option (List (Option Nat))) (some (none::r)) (λ j=>some (some (b+j)::r)) (λ i=>Op.b (cy cs i) none λ o=>Op.b o none λ k=>some (some k::r)) v) vk
theorem eO:∀{vk:List VK} {cs:List (Option Nat)} {b:Nat} {r:List (Option Nat)},fo vk cs b=some r->∀{i k:Nat},r[i]? =some (some k)->(∃j,vk[i]? =some (.new j)/\k=b+j)∨(∃j,vk[i]? =some (.old j)/\cs[j]? =some (some k)):=by
 intro vk cs b
 induction vk with
 |nil=>intro r h i k e;cases h;simp at e
 |cons v vk ih=>
  intro r h i k e
  refine Op.elim (show(Op.b (fo vk cs b) none λ r=>VK.rec (motive:=λ _=>Option (List (Option Nat))) (some (none::r)) (λ j=>some (some (b+j)::r)) (λ i=>Op.b (cy cs i) none λ o=>Op.b o none λ k=>some (some k::r)) v)=some r from h) λ r' h1 h=>?_
  have ih':=@ih _ h1
  cases v with
  |loc=>
   cases h
   cases i with
   |zero=>simp at e
   |succ i=>simpa using ih' (by simpa using e)
  |new j=>
   cases h
   cases i with
   |zero=>simp at e;exact .inl ⟨j,rfl,e.symm⟩
   |succ i=>simpa using ih' (by simpa using e)
  |old j=>
   refine Op.elim (show(Op.b (cy cs j) none λ o=>Op.b o none λ k=>some (some k::r'))=some r from h) λ o h2 h=>?_
   refine Op.elim h λ k' h3 h=>?_
   subst h3
   cases h
   rw[aS]at h2
   cases i with
   |zero=>simp at e;subst e;exact .inr ⟨j,rfl,h2⟩
   |succ i=>simpa using ih' (by simpa using e)
theorem uR:∀{vk:List VK} {cs:List (Option Nat)} {b:Nat} {r:List (Option Nat)},fo vk cs b=some r->∀{i j:Nat},vk[i]? =some (.old j)->∃k,cs[j]? =some (some k):=by
 intro vk cs b
 induction vk with
 |nil=>intro r h i j e;simp at e
 |cons v vk ih=>
  intro r h i j e
  refine Op.elim (show(Op.b (fo vk cs b) none λ r=>VK.rec (motive:=λ _=>Option (List (Option Nat))) (some (none::r)) (λ j=>some (some (b+j)::r)) (λ i=>Op.b (cy cs i) none λ o=>Op.b o none λ k=>some (some k::r)) v)=some r from h) λ r' h1 h=>?_
  cases i with
  |succ i=>exact ih h1 (by simpa using e)
  |zero=>
   simp at e
   subst e
   refine Op.elim (show(Op.b (cy cs j) none λ o=>Op.b o none λ k=>some (some k::r'))=some r from h) λ o h2 h=>?_
   refine Op.elim h λ k' h3 h=>?_
   subst h3
   rw[aS]at h2
   exact⟨_,h2⟩
theorem oy {vk:List VK}{cs:List (Option Nat)}{b:Nat}{r:List (Option Nat)}(h:fo vk cs b=some r):∀{i:Nat},(∀k,r[i]?≠some (some k))->∀v,vk[i]? =some v->v= .loc:=by
 induction vk generalizing r with
 |nil=>intro i e v q;simp at q
 |cons v vk ih=>
  intro i e v' q
  refine Op.elim (show(Op.b (fo vk cs b) none λ r=>VK.rec (motive:=λ _=>Option (List (Option Nat))) (some (none::r)) (λ j=>some (some (b+j)::r)) (λ i=>Op.b (cy cs i) none λ o=>Op.b o none λ k=>some (some k::r)) v)=some r from h) λ r' h1 h=>?_
  cases v with
  |loc=>
   cases h
   cases i with
   |zero=>simp at q;exact q.symm
   |succ i=>exact ih h1 (λ k z=>e k (by simpa using z)) v' (by simpa using q)
  |new j=>
   cases h
   cases i with
   |zero=>exact absurd rfl (e (b+j))
   |succ i=>exact ih h1 (λ k z=>e k (by simpa using z)) v' (by simpa using q)
  |old j=>
   refine Op.elim (show(Op.b (cy cs j) none λ o=>Op.b o none λ k=>some (some k::r'))=some r from h) λ o h2 h=>?_
   refine Op.elim h λ k' h3 h=>?_
   subst h3
   cases h
   cases i with
   |zero=>exact absurd rfl (e k')
   |succ i=>exact ih h1 (λ k z=>e k (by simpa using z)) v' (by simpa using q)
noncomputable def bM (ns:List (Str×NameKind)):List Str:=(ns.filter λ p=>p.2 == .cell).map (·.1)
noncomputable def ux (N:Nm)(ns:List (Str×NameKind))(p:Str×VK):Bool:=match p.2 with
 |.loc=>decide (ns.lookup p.1=some .local)
 |.new j=>decide (ns.lookup p.1=some .cell) && decide ((bM ns)[j]? =some p.1)
 |.old j=>decide (ns.lookup p.1=some .free) && decide (N.vn[j]? =some p.1)
structure Sco (N N':Nm) (vk:List VK) (nc:Nat) (scope:Scope):Prop where
 kind:scope.kind= .function
 fn:N'.fn=false
 hn:∀x∈scope.names,x.2= .local->scope.names.lookup x.1=some .local
 cn:(scope.names.map (·.1)).Nodup
 nd:N'.vn.Nodup
 len:vk.length=N'.vn.length
 ent:∀p∈List.zip N'.vn vk,ux N scope.names p=true
 free:∀x∈scope.names,x.2= .free->∃p∈List.zip N'.vn vk,p.1=x.1/\p.2≠.loc/\ux N scope.names p=true
 nc:(bM scope.names).length=nc
 dbg:∀x∈N'.vn,(x == ("__debug__":Str))=false
 glo:∀x∈N'.gs,scope.names.lookup x=some .globalImplicit/\(x == ("__debug__":Str))=false
theorem lD {env:Env}(f:Str×NameKind->List (Str×Addr)->Sem (ForInStep (List (Str×Addr))))
  (hf:∀n k cs,f (n,k) cs=if k == .free then(do let a ← cellOf env n;pure (.yield ((n,a)::cs)))else pure (.yield cs)):
  ∀(names:List (Str×NameKind)) (acc:List (Str×Addr)),(∀p∈names,p.2= .free->∃a,env.cells.lookup p.1=some a)->
   ∃cl,forIn names acc f=pure cl/\(∀x,(x,NameKind.free)∈names->cl.lookup x=env.cells.lookup x)/\(∀x,(x,NameKind.free)∉names->cl.lookup x=acc.lookup x):=by
 intro names
 induction names with
 |nil=>intro acc h;exact⟨acc,rfl,λ x hx=>by simp at hx,λ x _=>rfl⟩
 |cons p names ih=>
  intro acc h
  obtain⟨n,k⟩:=p
  have h':∀p∈names,p.2= .free->∃a,env.cells.lookup p.1=some a:=λ p hp=>h p (ar _ hp)
  by_cases hk:k= .free
  ·subst hk
   refine eE (h (n,.free) aT rfl) λ a ha=>?_
   change env.cells.lookup n=some a at ha
   refine bW (ih ((n,a)::acc) h') λ cl e1 e2 e3=>?_
   refine⟨cl,?_,λ x hx=>?_,λ x hx=>?_⟩
   ·rw[List.forIn_cons,hf]
    simp only[beq_self_eq_true,if_true,cellOf,ha]
    exact e1
   ·by_cases hm:(x,NameKind.free)∈names
    ·exact e2 x hm
    ·rw[e3 x hm]
     rcases List.mem_cons.mp hx with e|hx
     ·cases e;rw[List.lookup_cons_self,ha]
     ·exact absurd hx hm
   ·have hm:(x,NameKind.free)∉names:=λ q=>hx (ar _ q)
    rw[e3 x hm,List.lookup_cons]
    have:(x == n)=false:=by
     rw[beq_eq_false_iff_ne]
     rintro rfl
     exact hx aT
    rw[this]
  ·refine bW (ih acc h') λ cl e1 e2 e3=>?_
   have hb:(k == NameKind.free)=false:=by simpa using hk
   refine⟨cl,?_,λ x hx=>?_,λ x hx=>e3 x λ q=>hx (ar _ q)⟩
   ·rw[List.forIn_cons,hf]
    simp only[hb,Bool.false_eq_true,if_false]
    exact e1
   ·rcases List.mem_cons.mp hx with e|hx
    ·cases e;exact absurd rfl hk
    ·exact e2 x hx
theorem lA {scope:Scope}{env:Env}(h:∀p∈scope.names,p.2= .free->∃a,env.cells.lookup p.1=some a):
  ∃cl,closureFor scope env=pure cl/\(∀x,(x,NameKind.free)∈scope.names->cl.lookup x=env.cells.lookup x)/\(∀x,(x,NameKind.free)∉scope.names->cl.lookup x=none):=by
 refine bW (lD (env:=env) (λ x cs=>match x with|(n,k)=>if k == .free then(do let a ← cellOf env n;pure (.yield ((n,a)::cs)))else pure (.yield cs)) (λ n k cs=>rfl) scope.names [] h) λ cl e1 e2 e3=>?_
 refine⟨cl,?_,e2,e3⟩
 simp only[closureFor]
 refine Eq.trans ?_ (congrArg (λ t=>t >>= λ r=>pure r) e1 |>.trans rfl)
 simp only[bind_pure]
theorem eJ:∀(names:List (Str×NameKind)) (n:Nat) (acc:List (Str×Addr)) (x:Str),(x,NameKind.cell)∉names->(cellsFrom n names acc).lookup x=acc.lookup x
 |[],_,_,_,_=>rfl
 |(y,k)::r,n,acc,x,h=>by
  unfold cellsFrom
  have hr:(x,NameKind.cell)∉r:=λ q=>h (ar _ q)
  split
  ·rename_i hk
   rw[eJ r _ _ x hr,List.lookup_cons]
   have:(x == y)=false:=by
    rw[beq_eq_false_iff_ne]
    rintro rfl
    rw[show k= .cell by simpa using hk]at h
    exact h aT
   rw[this]
  ·exact eJ r _ _ x hr
theorem fp:∀(names:List (Str×NameKind)) (n:Nat) (acc:List (Str×Addr)) (j:Nat) (x:Str),(names.map (·.1)).Nodup->(bM names)[j]? =some x->(cellsFrom n names acc).lookup x=some (n+j)
 |[],_,_,_,_,_,h=>by simp[bM]at h
 |(y,k)::r,n,acc,j,x,hn,h=>by
  unfold cellsFrom
  rw[bg,List.nodup_cons]at hn
  unfold bM at h
  split
  ·rename_i hk
   rw[List.filter_cons_of_pos (by exact hk),bg]at h
   cases j with
   |zero=>
    simp only[List.getElem?_cons_zero,Option.some.injEq]at h
    have h:y=x:=h
    subst h
    rw[eJ r _ _ y (λ q=>hn.1 (List.mem_map.mpr ⟨_,q,rfl⟩)),List.lookup_cons_self]
    rfl
   |succ j=>
    rw[hZ]at h
    rw[fp r (n+1) _ j x hn.2 h]
    congr 1
    exact vh
  ·rename_i hk
   rw[List.filter_cons_of_neg (by simpa using hk)]at h
   exact fp r n acc j x hn.2 h
section
variable{M:Model}{A:Around}{E:Value->Shared->Prop}{s:Shared}
theorem fG {scope:Scope}{globals:Addr}{cl:List (Str×Addr)}{qual:Str}{env:Env}{Q:Env->Shared->Prop}
  (hQ:Q (newEnv scope s.heap.objs.size globals (cellsFrom (s.heap.objs.size+1) scope.names cl) qual none .none (some env) builtinsNs) {s with heap:=pushCells (s.heap.push {cls:=.type "dict",data:=.dict #[]}) scope.names}):
  wpAny M A (newFunctionEnv scope globals cl [] qual none .none (some env)) Q E s:=by
 simp only[newFunctionEnv,Option.isSome_some,if_true]
 refine wpAny_bind (wpAny_alloc ?_)
 refine wpAny_bind (wpAny_layCells _ (λ name kind cells=>by cases hkc:kind == NameKind.cell<;>simp[hkc]) _ _ _ _ ?_)
 rw[show({s with heap:=s.heap.push {cls:=.type "dict",data:=.dict #[]}}:Shared).heap.objs.size=s.heap.objs.size+1 from Heap.size_push ..]
 exact wpAny_bind (wpAny_pure (wpAny_pure hQ))
end
section
variable{KT:b4}{B:Base}{ρ:List Addr}{st:List AO}
theorem Rep.pushCells:∀(names:List (Str×NameKind)) (h:Heap) (ρ:List Addr) (st:List AO),1<h.objs.size->Rep KT B ρ st h->
  Rep KT B (ρ++List.range' h.objs.size (bM names).length) (st++List.replicate (bM names).length (.cell none)) (PySem.pushCells h names)
 |[],h,ρ,st,hs,R=>by
  show Rep KT B (ρ++List.range' h.objs.size 0) (st++List.replicate 0 (.cell none)) h
  simpa using R
 |(y,k)::r,h,ρ,st,hs,R=>by
  unfold PySem.pushCells
  split
  ·rename_i hk
   have e:(bM ((y,k)::r)).length=(bM r).length+1:=by
    unfold bM
    rw[List.filter_cons_of_pos (by exact hk)]
    simp
   rw[e]
   have R1:=Rep.push hs R (ob:={cls:=.type "cell",data:=.cell none}) (o:=.cell none) rfl rfl
   have R2:=Rep.pushCells r _ _ _ (by rw[Heap.size_push];exact ω34 hs) R1
   rw[Heap.size_push,aR,aR]at R2
   rw[List.range'_succ,List.replicate_succ]
   exact R2
  ·rename_i hk
   have e:(bM ((y,k)::r))=(bM r):=by
    unfold bM
    rw[List.filter_cons_of_neg (by simpa using hk)]
   rw[e]
   exact Rep.pushCells r _ _ _ hs R
end
noncomputable def dq (n nv nc:Nat)(vk:List VK)(it:EF)(t:GF)(ifs:TF)(cls:List CL)(e:EF):EF:=λ D σ=>bb D.hn ((it D σ).b .no λ x σ1=>Op.b (cF D.kt x σ1.st) .no λ I=>Op.b (fo vk D.cs (Nat.succ σ1.st.length)) .no λ cs'=>
 (eP n t ifs (hJ n e σ1.st.length cls) ⟨cs',D.d,D.hn,D.kt⟩ I 0 ⟨σ1.st++[.list []]++List.replicate nc (.cell none),List.replicate nv none⟩).b .no λ σ2=>.ok (.ref σ1.st.length) ⟨σ2.st,σ1.fr⟩) .no
theorem fZ {α β:Type}{f:α->β}:∀{l:List α},(l.map f).Nodup->∀{a b:α},a∈l->b∈l->f a=f b->a=b
 |[],_,_,_,h,_,_=>by simp at h
 |c::l,hn,a,b,ha,hb,e=>by
  rw[bg,List.nodup_cons]at hn
  rcases List.mem_cons.mp ha with h1|h1<;>rcases List.mem_cons.mp hb with h2|h2
  ·rw[h1,h2]
  ·exact absurd (show f c∈l.map f from by rw[← h1,e];exact List.mem_map_of_mem h2) hn.1
  ·exact absurd (show f c∈l.map f from by rw[← h2,← e];exact List.mem_map_of_mem h1) hn.1
  ·exact fZ hn.2 h1 h2 e
theorem n4 {α β:Type}{l:List α}{r:List β}{a:α}{b:β}(h:(a,b)∈List.zip l r):∃i:Nat,l[i]? =some a/\r[i]? =some b:=by
 refine eE (List.mem_iff_getElem?.mp h) λ i hi=>?_
 rw[List.getElem?_zip_eq_some]at hi
 exact⟨i,hi⟩
theorem eN {α β:Type}{l:List α}{r:List β}{a:α}{b:β}{i:Nat}(h1:l[i]? =some a)(h2:r[i]? =some b):(a,b)∈List.zip l r:=
 List.mem_iff_getElem?.mpr ⟨i,List.getElem?_zip_eq_some.mpr ⟨h1,h2⟩⟩
theorem dp {env:Env}:∀{names:List (Str×NameKind)} {x:Str} {k:NameKind},k≠.free->names.lookup x=some k->
  (names.map λ(n,k)=>if(k == NameKind.free && env.scope.kind == .function && env.kindOf n == some .cell)then(n,NameKind.cell)else(n,k)).lookup x=some k
 |[],_,_,_,h=>by simp at h
 |(n,k)::r,x,k',hk',h=>by
  have ih:=@dp env r x k' hk'
  show List.lookup x ((if(k == NameKind.free && env.scope.kind == .function && env.kindOf n == some .cell)=true then(n,NameKind.cell)else(n,k))::_)=_
  cases hx:x == n with
  |true=>
   simp only[List.lookup_cons,hx]at h
   cases h
   have:(k == NameKind.free)=false:=by simpa using hk'
   simp[List.lookup_cons,hx,this]
  |false=>
   simp only[List.lookup_cons,hx]at h
   by_cases hc:(k == NameKind.free && env.scope.kind == .function && env.kindOf n == some .cell)=true
   ·rw[if_pos hc];simp only[List.lookup_cons,hx];exact ih h
   ·rw[if_neg hc];simp only[List.lookup_cons,hx];exact ih h
theorem ff {env:Env}(hf:env.scope.kind= .function):∀{names:List (Str×NameKind)} {x:Str},env.kindOf x=some .cell->names.lookup x=some .free->
  (names.map λ(n,k)=>if(k == NameKind.free && env.scope.kind == .function && env.kindOf n == some .cell)then(n,NameKind.cell)else(n,k)).lookup x=some .cell
 |[],_,_,h=>by simp at h
 |(n,k)::r,x,hk',h=>by
  have ih:=@ff env hf r x hk'
  show List.lookup x ((if(k == NameKind.free && env.scope.kind == .function && env.kindOf n == some .cell)=true then(n,NameKind.cell)else(n,k))::_)=_
  cases hx:x == n with
  |true=>
   simp only[List.lookup_cons,hx]at h
   cases h
   have e:x=n:=by simpa using hx
   subst e
   simp[List.lookup_cons,hf,hk']
  |false=>
   simp only[List.lookup_cons,hx]at h
   by_cases hc:(k == NameKind.free && env.scope.kind == .function && env.kindOf n == some .cell)=true
   ·rw[if_pos hc];simp only[List.lookup_cons,hx];exact ih h
   ·rw[if_neg hc];simp only[List.lookup_cons,hx];exact ih h
section
variable{G:Gd}{N N':Nm}
theorem l7 {n nv nc:Nat}{vk:List VK}{it:EF}{t:GF}{ifs:TF}{cls:List CL}{e:EF}{elt:PySem.Expr}{g:Comprehension}{gs:List Comprehension}{scope:Scope}{pos fpos:Pos}(Sc:Sco N N' vk nc scope)
  (hit:SE G N it g.iter) (ht:SG G N' t g.target) (hi:zH G N' ifs g.ifs) (na:g.is_async=0) (hlet:∀it v,letOwnedTupleGo g.target it v=pure ()) (hf:∀env x,foldedSetIterable g.iter env x=pure x)
  (hcls:lq G N' cls gs) (he:SE G N' e elt) {C:Cx} (hC:C.is N) {σ σ':AS} {v:AV} (h:dq n nv nc vk it t ifs cls e C.dn σ= .ok v σ') {ρ:List Addr} {s:Shared} (S:SR G C ρ σ s.heap) {use:Option (Value->Sem Unit)} {E Q:Value->Shared->Prop}
  (hQ:∀ρ' h' tk' L' m aA,ρ<+:ρ'->SR G C ρ' σ' h'->VR G.KT ρ' v (.ref aA)->h'.Ns L' m->L'∉ρ'->L'≠C.env.locals->C.B L'=none->compPost (model G.prog G.w) C.A E use Q (.ref aA) L' (.ok .next) {s with heap:=h',toks:=tk'}):
  wpAny (model G.prog G.w) C.A (comprehension (.ListComp elt (g::gs) scope pos) scope C.env fpos (newList []) false (eval g.iter C.env) use) Q E s:=by
 refine ay h λ hn h=>?_
 refine RV.elim h λ x σ1 h1 h=>?_
 refine Op.elim h λ I h2 h=>?_
 refine Op.elim h λ cs' h3 h=>?_
 refine RU.elim h λ σ2 h4 h=>?_
 cases h
 have hh:=S.ok.hh hn
 have oldc:∀x,(x,NameKind.free)∈scope.names->∃a,C.env.cells.lookup x=some a/\C.env.kindOf x=some .cell:=by
  intro x hx
  refine em (Sc.free _ hx rfl) λ z1_ hp e1 e2 e3=>?_;obtain⟨y,k⟩:=z1_
  change y=x at e1
  subst e1
  refine aQ (n4 hp) λ i i1 i2=>?_
  cases k with
  |loc=>exact absurd rfl e2
  |new j=>
   have e4:(decide (scope.names.lookup y=some .cell) && decide ((bM scope.names)[j]? =some y))=true:=e3
   simp only[Bool.and_eq_true,decide_eq_true_eq]at e4
   refine eA e4 λ _ h5=>?_
   have h6:y∈bM scope.names:=ac h5
   unfold bM at h6
   refine aQ (List.mem_map.mp h6) λ z1_ hz z2_=>?_;obtain⟨z,k⟩:=z1_;subst z2_
   refine eA (List.mem_filter.mp hz) λ hz1 hz2=>?_
   have hk:k= .cell:=by simpa using hz2
   subst hk
   have:=fZ Sc.cn hx hz1 rfl
   cases this
  |old j=>
   have e4:(decide (scope.names.lookup y=some .free) && decide (N.vn[j]? =some y))=true:=e3
   simp only[Bool.and_eq_true,decide_eq_true_eq]at e4
   refine eE (uR h3 i2) λ k hk=>?_
   refine bz (S.cells j k hk) λ x' a hx' hl ha hkind=>?_
   have:x'=y:=aj (hx'.symm.trans (by rw[hC.1];exact e4.2))
   subst this
   exact⟨a,hl,hkind⟩
 refine bW (lA (scope:=scope) (env:=C.env) λ p hp hk=>by
  obtain⟨y,k⟩:=p
  change k= .free at hk
  subst hk
  obtain⟨a,ha,_⟩:=oldc y hp
  exact⟨a,ha⟩) λ cl c1 c2 c3=>?_
 refine wpAny_comprehension_free (use:=use) rfl (hf _) c1 Sc.kind Sc.hn ?_
 refine hit C hC _ _ _ h1 ρ s S _ _ λ ρ1 u t'1 k'1 p'1 S'1 r'1=>?_
 refine i6 (s:=⟨t'1,s.gens,s.drawn,k'1,s.os⟩) S'1 h2 r'1 λ ob t'2 hI ho hk2=>?_
 refine fT S'1.new λ n1 n2 n3=>?_
 have S'2:=S'1.ext hk2
 refine wpAny_newList ?_ (by rw[sizeLine_eq];simp)
 have S3:=S'2.push (ob:={cls:=.type "list",data:=.seq ([]:List Value).toArray}) (o:=.list []) rfl ⟨_,_,rfl,.nil⟩
 have ho'3:=av {cls:=.type "list",data:=.seq ([]:List Value).toArray} ho
 refine fG ?_
 dsimp only
 dsimp only at ho ho'3
 generalize hH:t'2.push {cls:=.type "list",data:=.seq ([]:List Value).toArray}=t'3 at S3 ho'3 ⊢
 have hsz:t'3.objs.size=t'2.objs.size+1:=by rw[← hH,Heap.size_push]
 have hI0:t'1.objs.size<t'2.objs.size:=Heap.lt_size ho
 refine iM S3.base λ oL R3 b0 b1 b2 back=>?_
 have hρ1:ρ1.length=σ1.st.length:=S'1.rep.len
 have R'4:=R3.ext (h':=t'3.push {cls:=.type "dict",data:=.dict #[]}) λ b o e=>av _ e
 have R'5:=Rep.pushCells scope.names _ _ _ (by rw[Heap.size_push];have:=S'1.big;have:=Heap.lt_size ho;exact ω35 hsz) R'4
 rw[Heap.size_push,Sc.nc]at R'5
 have hns:(pushCells (t'3.push {cls:=.type "dict",data:=.dict #[]}) scope.names).Ns t'3.objs.size λ _=>none:=(Heap.Ns.new t'3 (.type "dict")).keeps (pushCells_keeps _ _)
 have ho5:(pushCells (t'3.push {cls:=.type "dict",data:=.dict #[]}) scope.names).get? t'1.objs.size=some ob:=pushCells_keeps _ _ _ _ (av _ ho'3)
 have LB:(C.B.add C.env.locals oL) t'3.objs.size=none:=by
  cases q:(C.B.add C.env.locals oL) t'3.objs.size with
  |none=>rfl
  |some o=>exact absurd (BO.ok.lt (by have:=S'1.big;have:=S'2.big;exact xX this hsz) (R3.kept _ _ q)) (aM _)
 have LB0:C.B t'3.objs.size=none/\t'3.objs.size≠C.env.locals:=by
  have:(if t'3.objs.size=C.env.locals then some (BO.da oL.data)else C.B t'3.objs.size)=none:=LB
  split at this
  ·cases this
  ·rename_i q;exact⟨this,q⟩
 have hLρ:t'3.objs.size∉ρ1++[t'2.objs.size]++List.range' (t'3.objs.size+1) nc:=by
  intro q
  rcases bn.mp q with q|q
  ·exact aM _ (R3.lt q)
  ·rw[List.mem_range'_1]at q
   exact ω37 q
 have hIρ:t'1.objs.size∉ρ1++[t'2.objs.size]++List.range' (t'3.objs.size+1) nc:=by
  intro q
  rcases bn.mp q with q|q
  ·rcases bn.mp q with q|q
   ·exact n1 q
   ·rw[List.mem_singleton]at q;exact ω38 hI0 q
  ·rw[List.mem_range'_1]at q
   exact ω39 q hsz hI0
 let C':Cx:=⟨C.B.add C.env.locals oL,C.A,compEnvC scope (cellsFrom (t'3.objs.size+1) scope.names cl) t'3.objs.size C.env,N'.vn,N'.gs,cs',C.d,C.hn,C.kt⟩
 have ok:=S.ok
 have kB:∀h,Kept (C.B.add C.env.locals oL) h->Kept C.B h:=λ h k=>k.of_addB ok.Lb
 have locK:∀(i:Nat) (x:Str),N'.vn[i]? =some x->(∀k,cs'[i]?≠some (some k))->(compEnvC scope (cellsFrom (t'3.objs.size+1) scope.names cl) t'3.objs.size C.env).kindOf x=some .local:=by
  intro i x hx hk
  have hi':i<vk.length:=by rw[Sc.len];exact(aa.mp hx).1
  have hv:=oy h3 hk _ (ae hi')
  have e4:=Sc.ent _ (eN hx (ae hi'))
  unfold ux at e4
  dsimp only at e4
  rw[hv]at e4
  exact dp (by nofun) (of_decide_eq_true e4)
 have ok':CxOk G C':=by
  refine⟨Sc.kind,ok.gl,ok.bi,Sc.nd,locK,Sc.dbg,LB,λ x hx=>⟨dp (by nofun) (Sc.glo x hx).1,(Sc.glo x hx).2⟩,ok.dep,ok.uni,ok.hh,λ h k=>ok.kin h (kB h k),λ h k=>ok.top h (kB h k),λ h k=>ok.tab h (kB h k),λ h k=>ok.b0 h (kB h k),?_,b1,b2,ok.X0,ok.T0,ok.ktok,by refine aQ ok.fl λ l q1 q2=>?_;exact⟨l,q1,λ e he=>(q2 e he).mono b0.1 b0.2⟩⟩
  have q1:C.env.locals<t'1.objs.size:=S'1.lnlt
  have q2:=ok.ab
  exact Nat.le_trans q2 (Nat.le_trans (Nat.le_of_lt q1) (show t'1.objs.size<=t'3.objs.size by exact ω40 hI0 hsz))
 have S5:SR G C' (ρ1++[t'2.objs.size]++List.range' (t'3.objs.size+1) nc) ⟨σ1.st++[.list []]++List.replicate nc (.cell none),List.replicate nv none⟩ (pushCells (t'3.push {cls:=.type "dict",data:=.dict #[]}) scope.names):=by
  refine⟨R'5,⟨_,hns,λ i v e=>?_⟩,hLρ,λ i k e=>?_,ok'⟩
  ·rw[bX]at e
   split at e<;>cases e
  ·rcases eO h3 e with⟨j,hj,rfl⟩|⟨j,hj,hk⟩
   ·have hi':i<N'.vn.length:=by rw[← Sc.len];exact(aa.mp hj).1
    have e4:=Sc.ent _ (eN (ae hi') hj)
    have e4:(decide (scope.names.lookup N'.vn[i]=some .cell) && decide ((bM scope.names)[j]? =some N'.vn[i]))=true:=e4
    simp only[Bool.and_eq_true,decide_eq_true_eq]at e4
    refine⟨N'.vn[i],t'3.objs.size+1+j,ae hi',fp _ _ _ j _ Sc.cn e4.2,?_,dp (by nofun) e4.1⟩
    have hj':j<nc:=by rw[← Sc.nc];exact(aa.mp e4.2).1
    rw[aR,az (by rw[hρ1];exact ω41),hρ1]
    have:Nat.succ σ1.st.length+j - σ1.st.length=j+1:=by exact ω42
    rw[this]
    show(List.range' (t'3.objs.size+1) nc)[j]? =_
    rw[List.getElem?_range' (by exact ω43 hj')]
    congr 1
    exact ω44
   ·have hi':i<N'.vn.length:=by rw[← Sc.len];exact(aa.mp hj).1
    have e4:=Sc.ent _ (eN (ae hi') hj)
    have e4:(decide (scope.names.lookup N'.vn[i]=some .free) && decide (N.vn[j]? =some N'.vn[i]))=true:=e4
    simp only[Bool.and_eq_true,decide_eq_true_eq]at e4
    refine bz (S'1.cells j k hk) λ x' a hx' hl ha hkind=>?_
    have:x'=N'.vn[i]:=aj (hx'.symm.trans (by rw[hC.1];exact e4.2))
    subst this
    have hmem:(N'.vn[i],NameKind.free)∈scope.names:=by
     exact mem_of_lookup e4.1
    have hnc:(N'.vn[i],NameKind.cell)∉scope.names:=λ q=>by
     have:=fZ Sc.cn hmem q rfl
     cases this
    refine⟨N'.vn[i],a,ae hi',?_,?_,ff ok.fn hkind e4.1⟩
    ·show(cellsFrom (t'3.objs.size+1) scope.names cl).lookup _=_
     rw[eJ _ _ _ _ hnc,c2 _ hmem]
     exact hl
    ·have:k<ρ1.length:=(aa.mp ha).1
     rw[aR,aL this]
     exact ha
 have haA:(ρ1++[t'2.objs.size]++List.range' (t'3.objs.size+1) nc)[σ1.st.length]? =some t'2.objs.size:=by
  rw[aR,az (by exact ω45 hρ1),hρ1]
  simp
 have loop:∀(Q':Result->Shared->Prop),(∀ρ' h' tk',ρ1++[t'2.objs.size]++List.range' (t'3.objs.size+1) nc<+:ρ'->SR G C' ρ' σ2 h'->Q' (.ok .next) ⟨h',s.gens,s.drawn,tk',s.os⟩)->
   codeAny (model G.prog G.w) C.A (.compLoop (.ListComp elt (g::gs) scope pos) 0 (.ref t'1.objs.size) (.ref t'2.objs.size) C'.env) Q' ⟨pushCells (t'3.push {cls:=.type "dict",data:=.dict #[]}) scope.names,s.gens,s.drawn,k'1,s.os⟩:=λ Q' hQ'=>
  oA (C:=C') (body:=hJ n e σ1.st.length cls) (acc:=σ1.st.length) (g:=g) rfl na ht hi hlet (uS he cls gs 0 rfl hcls) ⟨rfl,rfl,λ q=>by rw[Sc.fn]at q;cases q⟩ h4 haA S5 hh ho5 (hI.mono (by rw[aR];exact ai _ _)) hIρ (by show t'1.objs.size≠t'3.objs.size;exact ω46 hI0 hsz) (by
   show(if t'1.objs.size=C.env.locals then some (BO.da oL.data)else C.B t'1.objs.size)=none
   rw[if_neg n2];exact n3) Q' hQ'
 have fin:∀ρ' h' tk',ρ1++[t'2.objs.size]++List.range' (t'3.objs.size+1) nc<+:ρ'->SR G C' ρ' σ2 h'->compPost (model G.prog G.w) C.A E use Q (.ref t'2.objs.size) t'3.objs.size (.ok .next) ⟨h',s.gens,s.drawn,tk',s.os⟩:=by
  intro ρ' h' tk' p S6
  have p0:ρ1++[t'2.objs.size]<+:ρ':=(ai _ _).trans p
  have S7:=back ρ' _ h' p0 S6.rep
  refine aQ S6.fr λ m hm _=>?_
  exact hQ ρ' h' tk' t'3.objs.size m t'2.objs.size (p'1.trans ((ai _ _).trans p0)) S7 ⟨_,cx p haA,rfl⟩ hm S6.Lρ LB0.2 LB0.1
 exact eo (g:=g) rfl na (loop _ fin) (lO (C:=C) (σ:=σ1) ho5 hI (loop _ fin))
end
theorem g6 {g:Comprehension}{gs:List Comprehension}{env:Env}:firstIter (g::gs) env=eval g.iter env:=by cases g;rfl
section
variable{G:Gd}{N N':Nm}
theorem iV {n nv nc:Nat}{vk:List VK}{it:EF}{t:GF}{ifs:TF}{cls:List CL}{e:EF}{elt:PySem.Expr}{g:Comprehension}{gs:List Comprehension}{scope:Scope}{pos:Pos}(Sc:Sco N N' vk nc scope)
  (hit:SE G N it g.iter) (ht:SG G N' t g.target) (hi:zH G N' ifs g.ifs) (na:g.is_async=0) (hlet:∀it v,letOwnedTupleGo g.target it v=pure ()) (hf:∀env x,foldedSetIterable g.iter env x=pure x)
  (hcls:lq G N' cls gs) (he:SE G N' e elt):SE G N (dq n nv nc vk it t ifs cls e) (.ListComp elt (g::gs) scope pos):=by
 intro C hC σ σ' v h ρ s S E Q hQ
 rw[eval_ListComp]
 have e1:firstAsync (g::gs)=false:=by
  obtain⟨_,_,_,a⟩:=g
  show(a != 0)=false
  simpa using na
 rw[e1,g6]
 have:=l7 (use:=none) (pos:=pos) (fpos:=firstIterPos (g::gs) pos) Sc hit ht hi na hlet hf hcls he hC h S (E:=E) (Q:=Q) λ ρ' h' tk' L' m aA p S' r hn n1 n2 n3=>?_
 ·exact this
 ·refine⟨m,hn,λ h'' hs=>?_⟩
  exact hQ ρ' _ h'' tk' p (S'.extBut hs.extBut n1 n2 n3) r
theorem mw {n nv nc i:Nat}{vk:List VK}{it:EF}{t:GF}{ifs:TF}{cls:List CL}{e:EF}{elt:PySem.Expr}{g:Comprehension}{gs:List Comprehension}{scope:Scope}{pos ppos npos:Pos}{x:Str}(hx:N.vn[i]? =some x)(Sc:Sco N N' vk nc scope)
  (hit:SE G N it g.iter) (ht:SG G N' t g.target) (hi:zH G N' ifs g.ifs) (na:g.is_async=0) (hlet:∀it v,letOwnedTupleGo g.target it v=pure ()) (hf:∀env x,foldedSetIterable g.iter env x=pure x)
  (hcls:lq G N' cls gs) (he:SE G N' e elt):SS G N (bv (gV i) (dq n nv nc vk it t ifs cls e)) (.Assign [.Name x npos] (.ListComp elt (g::gs) scope pos) ppos):=by
 intro C hC σ h ρ s S E Q hQ
 have e0:∃r,bv (gV i) (dq n nv nc vk it t ifs cls e) C.dn σ=r:=⟨_,rfl⟩
 refine eE e0 λ r e0=>?_
 rw[e0]at h hQ
 refine RV.elim e0 (hz:=Ne.symm h) λ v σ1 h1 e0=>?_
 refine RU.elim e0 (hz:=Ne.symm h) λ σ2 h2 e0=>?_
 subst e0
 have hx':C.nms[i]? =some x:=by rw[hC.1];exact hx
 have sw:∃b,swapsWith (.ListComp elt (g::gs) scope pos) (some (.Name x npos)) ppos.line C.env=pure b:=⟨_,rfl⟩
 refine eE sw λ b sw=>?_
 have e1:firstAsync (g::gs)=false:=by
  obtain⟨_,_,_,a⟩:=g
  show(a != 0)=false
  simpa using na
 cases b with
 |true=>
  rw[exec_Assign_Name_used _ _ _ _ sw]
  refine wpAny_bind (wpAny_standAt (wpAny_bind ?_))
  show wpAny _ C.A (do let _ ← comprehension (.ListComp elt (g::gs) scope pos) scope C.env _ (newList []) (firstAsync (g::gs)) (firstIter (g::gs) C.env) (some (assign (.Name x npos) C.env))) _ _ s
  rw[e1,g6]
  refine wpAny_bind (l7 (use:=some (assign (.Name x npos) C.env)) (pos:=pos) (fpos:=firstIterPos (g::gs) pos) Sc hit ht hi na hlet hf hcls he hC h1 S λ ρ' h' tk' L' m aA p S' r hn n1 n2 n3=>?_)
  show wpAny _ C.A (assign (.Name x npos) C.env (.ref aA)) _ _ _
  refine kY (id hn) λ oL es ep hoL hr=>?_
  have S'':SR G (C.add L' oL) ρ' σ1 h':=S'.add hoL n1 n2 n3
  refine aW (G:=G) hx (C.add L' oL) hC _ _ _ h2 ρ' ⟨h',s.gens,s.drawn,tk',s.os⟩ _ r S'' E _ λ ρ2 u t'2 k'2 p'2 S'2 _=>?_
  refine fT (S'2.drop S.ok n3) λ S3 g3 q3=>?_
  refine⟨m,⟨oL,es,ep,g3,hr⟩,λ h'' hs=>?_⟩
  exact wpAny_pure (wpAny_pure (hQ ρ2 _ h'' k'2 (p.trans p'2) (S3.extBut hs.extBut q3 n2 n3) rfl))
 |false=>
  have sw':∀n:Nat,n=ppos.line->swapsWithSole [.Name x npos] (.ListComp elt (g::gs) scope pos) n C.env=pure false:=λ n hn=>by rw[hn];exact sw
  refine wpAny_Assign_stores (iV Sc hit ht hi na hlet hf hcls he C hC _ _ _ h1 ρ s S E _ λ ρ1 u t'1 k'1 p'1 S'1 r'1=>?_) (sw' _ rfl) rfl
  exact aV (λ _ _=>rfl) (aW hx) C hC _ _ _ h2 ρ1 ⟨t'1,s.gens,s.drawn,k'1,s.os⟩ u r'1 S'1 E _ λ ρ2 a t'2 k'2 p'2 S'2 _=>hQ ρ2 _ t'2 k'2 (p'1.trans p'2) S'2 rfl
end
noncomputable def iS (x:AV)(st:List AO):Option (List AV):=x.r none λ r=>Op.b (cy st r) none λ o=>match o with
 |.list xs=>bb (Nat.ble xs.length big) (some xs) none
 |.tup xs=>bb (Nat.ble xs.length big) (some xs) none
 |_=>none
theorem sT {st:List AO}{r:Nat}{xs:List AV}(h:st[r]? =some (.list xs))(hz:Nat.ble xs.length big=true):iS (.ref r) st=some xs:=by
 show Op.b (cy st r) none _=_
 rw[aS,h]
 exact congrArg (λ b=>bb b (some xs) none) hz
theorem sS {st:List AO}{x:AV}{xs:List AV}(e:iS x st=some xs):∃r,x= .ref r/\(st[r]? =some (.list xs)∨st[r]? =some (.tup xs)):=by
 refine AV.r_elim e λ i zi e=>Op.elim e λ o hst e=>?_
 rw[aS]at hst
 cases o with
 |list ys=>exact ay e λ _ e=>⟨i,zi,.inl (aj e▸hst)⟩
 |tup ys=>exact ay e λ _ e=>⟨i,zi,.inr (aj e▸hst)⟩
 |_=>cases e
section
variable{G:Gd}{C:Cx}{ρ:List Addr}{σ:AS}{s:Shared}
theorem vq {x:AV}{xs:List AV}{y:Value}(S:SR G C ρ σ s.heap)(e:iS x σ.st=some xs)(r:VR G.KT ρ x y){E:Value->Shared->Prop}{Q:List Value->Shared->Prop}
  (hQ:∀vs h',SR G C ρ σ h'->VRs G.KT ρ xs vs->Q vs {s with heap:=h'}):StarOf (model G.prog G.w) C.A E y Q s:=by
 have key:∀(a:Addr) (ob:Obj) (T:String) (vs:Array Value) (n:Nat),s.heap.get? a=some ob->ob.cls= .type T->ob.data= .seq vs n->(T="list"∨T="tuple")->VRs G.KT ρ xs vs.toList->Nat.ble xs.length big=true->StarOf (model G.prog G.w) C.A E (.ref a) Q s:=by
  intro a ob T vs n ho hc hd hT rv hz
  have hz:=bA hz
  unfold big at hz
  have hl:=rv.length
  have z:wpAny (model G.prog G.w) C.A (collect (.ref a)) Q E s:=by
   refine wpAny_collect_seq a hT ho hc hd (λ h' hk=>hQ _ h' (S.ext hk) rv) (by rw[sizeLine_eq];simp at hl;exact ω32 hl hz)
  have hT':s.TypeIs (.ref a) T:=⟨ob,ho,hc⟩
  unfold StarOf notIterableAtAll
  rcases hT with rfl|rfl
  ·exact wpAny_bind (wpAny_specialOf hT' PySem.F.slot_list_iter.lookup (wpAny_pure ⟨rfl,z⟩))
  ·exact wpAny_bind (wpAny_specialOf hT' PySem.F.slot_tuple_iter.lookup (wpAny_pure ⟨rfl,z⟩))
 refine AV.r_elim e λ i zi e'=>?_
 clear e
 subst zi
 refine Op.elim e' λ o hst e=>?_
 rw[aS]at hst
 refine aQ r λ a ha z1_=>?_;clear r;subst z1_
 cases o with
 |list ys=>
  refine ay e λ hz e=>?_
  cases e
  refine bC (S.obj ha hst) λ ob1 ho1 vs n z1_ r1=>?_;subst z1_
  exact key a _ "list" vs n ho1 rfl rfl (.inl rfl) r1 hz
 |tup ys=>
  refine ay e λ hz e=>?_
  cases e
  refine bC (S.obj ha hst) λ ob1 ho1 vs n z1_ r1=>?_;subst z1_
  exact key a _ "tuple" vs n ho1 rfl rfl (.inr rfl) r1 hz
 |_=>cases e
end
noncomputable def n8 (a:EF)(r:LF):LF:=λ D σ=>(a D σ).b .no λ x σ1=>Op.b (iS x σ1.st) .no λ xs=>(r D σ1).b .no λ ys σ2=>.ok (xs++ys) σ2
section
variable{G:Gd}{N:Nm}
theorem vy {a:EF}{r:LF}{e:PySem.Expr}{es:List PySem.Expr}{p:Pos}(ha:SE G N a e)(hr:SL G N r es):SL G N (n8 a r) (.Starred e p::es):=by
 intro C hC σ σ' vs h ρ s pos S
 refine RV.elim h λ x σ1 h1 h=>?_
 refine Op.elim h λ xs h2 h=>?_
 refine RS.elim h λ ys σ2 h3 h=>?_
 cases h
 intro E Q hQ
 refine items_star (ha C hC _ _ _ h1 ρ s S E _ λ ρ1 u t'1 k'1 p'1 S'1 r'1=>?_)
 refine vq (s:=⟨t'1,s.gens,s.drawn,k'1,s.os⟩) S'1 h2 r'1 λ vs h' S'2 rv=>?_
 exact hr C hC _ _ _ h3 _ ⟨h',s.gens,s.drawn,k'1,s.os⟩ pos S'2 E _ λ ρ2 v t'2 k'2 p'2 S3 r'2=>hQ ρ2 _ t'2 k'2 (p'1.trans p'2) S3 ((rv.mono p'2).append r'2)
noncomputable def wa (es:List PySem.Expr):Prop:=∀(env:Env) (pos:Pos),(backTo pos (starEach es env)).any (·.1)=true
noncomputable def SCc (G:Gd)(f:CF)(y:Value):Prop:=∀(C:Cx) (σ σ':AS) (vs:List AV) (v:AV),f C.dn vs σ= .ok v σ'->∀(ρ:List Addr) (s:Shared) (xs:List Value),VRs G.KT ρ vs xs->SR G C ρ σ s.heap->
 ∀(R:Result->Shared->Prop),(∀ρ' a h' tk',ρ<+:ρ'->SR G C ρ' σ' h'->VR G.KT ρ' v a->R (.ok (.ret a)) {s with heap:=h',toks:=tk'})->codeAny (model G.prog G.w) C.A (.call y ⟨xs,[]⟩) R s
theorem SCc.sc {f:CF}{y:Value}(h:SCc G f y):SC G f y:=λ C σ σ' vs v e ρ s xs r S E Q hQ=>wpAny_call (h C σ σ' vs v e ρ s xs r S _ hQ)
structure zI (G:Gd) (D:Addr) (name:Str) (f:Addr):Prop where
 pg:plainGet G.K D name=true
 fi:findIn G.K (.ref D) name=some (some (.ref f))
 fn:isFn G.K (.ref f)=true
 f2:fnIn G.K f=true
 gg:specialIn G.K (.ref f) "__get__"=some (some (.builtin "function.__get__"))
 ti:takesIn G.K (.ref f)=some false
 hd:hasDictIn G.K D=true
 cn:copiedNames.contains name=false
 no:name∉G.KT.ns D
theorem uX {C:Cx}{ρ:List Addr}{σ:AS}{s:Shared}{D:Addr}{name:Str}{f:Addr}{o:AV}{x:Value}{ex:Bool}{E:Value->Shared->Prop}{Q:Value->Shared->Prop}(M:zI G D name f)(S:SR G C ρ σ s.heap)(e:bV D o σ.st=true)(rx:VR G.KT ρ o x)
  (h:∀h' tk',SR G (C.add s.heap.objs.size (methodObj (.ref f) x)) ρ σ h'->C.B s.heap.objs.size=none->Q (.ref s.heap.objs.size) {s with heap:=h',toks:=tk'}):
  wpAny (model G.prog G.w) C.A (getAttr x name ex) Q E s:=by
 refine i_ (ey e (by nofun)) λ r D' j vals z1_ hst e1=>?_;subst z1_
 refine ay e1 λ hD e2=>?_
 refine kY (fU e2 (by nofun)) λ c vs b hj e3=>?_
 have hD:=aE hD
 have hc:=aE e3
 subst hD
 subst hc
 refine aQ rx λ a ha z1_=>?_;clear rx;subst z1_
 refine df (ig S ha hst hj) λ dx sl od _ _ _ z1_ _ I=>?_;obtain⟨es,n,rfl,_,hno,_⟩:=z1_
 have X:=S.kin
 have hBn:C.B s.heap.objs.size=none:=by
  cases q:C.B s.heap.objs.size with
  |none=>rfl
  |some x=>exact absurd (BO.ok.lt S.big (S.rep.kept _ _ q)) (aM _)
 refine get_bind X I (plainGet_of M.pg).1 (findObj_fn M.hd M.fi M.gg M.ti M.cn (by show lookIn name (dictOf es n)=_;rw[lookIn_dict,hno name M.no])) (plainGet_of M.pg).2
  (wpAny_call (fn_get (s:={s with toks:=s.toks+1}) X (beq_iff_eq.mp M.fn) (handed_on rfl (h (s.heap.push (methodObj (.ref f) (.ref a))) (s.toks+1) ?_ hBn))))
 refine(S.ext λ b o e=>av _ e).add (aY _ rfl) (λ q=>aM _ (S.rep.lt q)) (Nat.ne_of_gt S.lnlt) hBn
theorem vE {D:Addr}{name:Str}{f:Addr}{g:CF}{a:EF}{l:LF}{e x:PySem.Expr}{es:List PySem.Expr}{apos pos:Pos}(M:zI G D name f)(hg:SCc G g (.ref f))(ha:SE G N a e)(hl:SL G N l (x::es))(hx:fA x)(hp:wa (x::es))
  (he:∀env,eval (.Call (.Attribute e name apos) (x::es) [] pos) env=(do let ov ← eval e env;standAt apos.atName;let(f,first) ← holding [ov] (do pure (← getAttr ov name true,[]));callWith pos f first (backTo pos (starEach (x::es) env)) (backToKw pos (keywordEach [] env)))):
  SE G N (ir D g a l) (.Call (.Attribute e name apos) (x::es) [] pos):=by
 intro C hC σ σ' v h ρ s S
 refine RV.elim h λ o σ1 h1 h=>?_
 refine ay h λ h2 h=>?_
 refine RS.elim h λ vs σ2 h3 h=>?_
 intro E Q hQ
 rw[he]
 refine wpAny_bind (ha C hC _ _ _ h1 ρ s S E _ λ ρ1 u t'1 k'1 p'1 S'1 r'1=>?_)
 refine wpAny_bind (wpAny_standAt (wpAny_bind (wpAny_holding (wpAny_bind ?_))))
 refine uX (s:=⟨t'1,s.gens,s.drawn,k'1,s.os⟩) M S'1 h2 r'1 λ t'2 k'2 S'2 hB=>wpAny_pure ?_
 have hl':=hl (C.add t'1.objs.size (methodObj (.ref f) u)) hC _ _ _ h3 ρ1 ⟨t'2,s.gens,s.drawn,k'2,s.os⟩ pos S'2 E
 have hp':=hp C.env pos
 dsimp only
 rw[hx]at hl' hp' ⊢
 refine ks_call (P:=MethP G.K t'1.objs.size f u) hp' (keeps_M M.f2) (evalArgs_plain (hl' _ λ ρ2 w t'3 k'3 p'2 S3 r'2=>?_))
 refine fT (S3.drop S'1.ok hB) λ S4 g4 _=>?_
 refine⟨⟨g4,S4.kin⟩,wpAny_call (method_call g4 ?_)⟩
 exact hg C _ _ _ _ h ρ2 ⟨t'3,s.gens,s.drawn,k'3,s.os⟩ _ (.cons (r'1.mono p'2) r'2) S4 _ λ ρ3 a t4 k'4 p'3 S5 r'3=>hQ ρ3 a t4 k'4 (p'1.trans (p'2.trans p'3)) S5 r'3
end
structure sg (G:Gd) (N:Nm) (np:Nat) (f:Addr) (fd:FuncData) (body:List Stmt):Prop where
 isAt:∃o,G.K.lookup f=some o/\o.data= .func fd
 code:codeIn G.K fd.code fd.qualname=true
 bd:fd.body= .stmts body
 gl:fd.globals=mainGlobals
 bi:fd.builtins=builtinsNs
 bind:∀xs ys:List Value,xs.length=np->bindArgs fd ⟨xs++ys,[]⟩=newTuple ys >>= λ t=>pure (List.zip (N.vn.take (np+1)) (xs++[t]))
 np:np+1<=N.vn.length
 cell:∀x∈fd.scope.names,x.2≠.cell
 loc:∀x∈N.vn,fd.scope.names.lookup x=some .local/\(x == ("__debug__":Str))=false
 nd:N.vn.Nodup
 glo:∀x∈N.gs,fd.scope.names.lookup x=some .globalImplicit/\(x == ("__debug__":Str))=false
 co:fd.scope.isCoroutine=false
 gen:fd.scope.isGenerator=false
 kind:fd.scope.kind= .function
section
variable{G:Gd}{N:Nm}{np n:Nat}{f:Addr}{fd:FuncData}{body:List Stmt}{b:SF}
theorem uO (F:sg G N np f fd body)(hb:fw G N b body){C:Cx}(ok:CxOk G C){d:Nat}(hd:d+1<=C.d){hn':Bool}(hhn:hn'=true->C.hn=true){kt':Nat->Option (List AV)}(hkt:∀i xs,kt' i=some xs->∃a,G.KT.tab i=some (a,xs)){B:Base}{ρ:List Addr}{st:List AO}{s:Shared}(hsz:G.h0.objs.size<=s.heap.objs.size)(hsm:B sysModules≠none)(hhb:∀a o,G.h0.get? a=some o->B a≠none)(hB:∀h,Kept B h->Kept C.B h)(hfl:lw B C.env.locals/\∀a,lw C.B a->lw B a)(R:Rep G.KT B ρ st s.heap)
  {vs:List AV} {xs:List Value} (hl:np<=vs.length) (hz:vs.length<=big) (r:VRs G.KT ρ vs xs) {q:RF} (hq:b ⟨[],d,hn',kt'⟩ ⟨st++[.tup (vs.drop np)],f_ (vs.take np++[.ref st.length]) n⟩=q) (hn:q≠.no) {Q:Result->Shared->Prop}
  (hQ:∀ρ' a h' tk',ρ<+:ρ'->Rep G.KT B ρ' q.st.st h'->Rf G.KT ρ' q a->Q (.ok (.ret (match a with|.ret v=>v|_=>.none))) {s with heap:=h',toks:=tk'}):
  codeAny (model G.prog G.w) C.A (.call (.ref f) ⟨xs,[]⟩) Q s:=by
 unfold big at hz
 have K0:Kept C.B s.heap:=hB _ R.kept
 have X:=ok.kin _ K0
 have T:=ok.top _ K0
 refine aQ F.isAt λ o ho hdat=>?_
 have hlx:xs.length=vs.length:=r.length.symm
 have hxs:xs=xs.take np++xs.drop np:=(List.take_append_drop np xs).symm
 refine codeAny_call_function (fd:=fd) (body:=body) (by have:=ok.dep;exact ω4 this) (X _ _ ho) hdat F.co F.gen F.bd (codeRec_of X F.code) ?_
 rw[hxs,F.bind (xs.take np) (xs.drop np) (by rw[cO];exact ω47 hl hlx)]
 refine wpAny_bind (wpAny_newTuple ?_ (by rw[sizeLine_eq,List.length_drop];exact ω48 hlx hz))
 refine wpAny_pure ?_
 have hbig:1<s.heap.objs.size:=Nat.lt_trans (by decide) T.g.lt
 have R':=R.push hbig (ob:={cls:=.type "tuple",data:=.seq (xs.drop np).toArray}) (o:=.tup (vs.drop np)) rfl ⟨_,_,rfl,by simpa using(r.drop np).mono (ai _ _)⟩
 have hsz1:(s.heap.push {cls:=.type "tuple",data:=.seq (xs.drop np).toArray}).objs.size=s.heap.objs.size+1:=Heap.size_push ..
 have rr:VRs G.KT (ρ++[s.heap.objs.size]) (vs.take np++[.ref st.length]) (xs.take np++[.ref s.heap.objs.size]):=by
  refine((r.take np).mono (ai _ _)).append (.cons ⟨_,?_,rfl⟩ .nil)
  rw[← R.len];simp
 generalize hH:s.heap.push {cls:=.type "tuple",data:=.seq (xs.drop np).toArray}=H at R' hsz1 ⊢
 have T1:H.NoLimit:=by
  rw[← hH]
  exact T.nolimit.keeps λ b o e=>av _ e
 have hlen2:(vs.take np++[AV.ref st.length]).length=np+1:=by rw[aU,cO];simp;exact ω49 hl
 refine wpAny_newFunctionEnv F.cell ?_ (λ h'0 hns hsb=>⟨T1.fresh _ hsb,codeAny_func ?_⟩) F.kind
 ·intro x hx
  exact(F.loc x.1 (List.mem_of_mem_take (List.of_mem_zip hx).1)).1
 have hk:∀b o,H.get? b=some o->h'0.get? b=some o:=λ b o e=>hsb.extBut b o (Nat.ne_of_lt (Heap.lt_size e)) (av _ e)
 let C':Cx:=⟨B,C.A.deeper (callEnv fd H.objs.size f),callEnv fd H.objs.size f,N.vn,N.gs,[],d,hn',kt'⟩
 have hLB:B H.objs.size=none:=by
  cases e:B H.objs.size with
  |none=>rfl
  |some x=>exact absurd (BO.ok.lt (by exact xX hbig hsz1) (R'.kept _ _ e)) (aM _)
 have ok':CxOk G C':=by
  refine⟨F.kind,F.gl,F.bi,F.nd,λ i x e _=>(F.loc x (ac e)).1,λ x hx=>(F.loc x hx).2,hLB,λ x hx=>F.glo x hx,?_,?_,λ q=>ok.hh (hhn q),λ h k=>ok.kin h (hB h k),λ h k=>ok.top h (hB h k),λ h k=>ok.tab h (hB h k),λ h k=>ok.b0 h (hB h k),?_,hsm,hhb,ok.X0,ok.T0,hkt,?_⟩
  ·show C.A.depth+1+d<recursionLimit
   have:=ok.dep
   exact ω5 this hd
  ·show C.A.units+3+8*d+200<cLine
   have:=ok.uni
   exact ω6 this hd
  ·exact Nat.le_trans hsz (show s.heap.objs.size<=H.objs.size by exact ω50 hsz1)
  ·refine aQ ok.fl λ l h1 h2=>?_
   refine⟨callEnv fd H.objs.size f::l,by show C.A.frames.map _=_;rw[h1];rfl,λ e he=>?_⟩
   rcases List.mem_cons.mp he with rfl|he
   ·exact⟨by show fd.scope.kind≠_;rw[F.kind];nofun,_,rfl,.inl rfl⟩
   ·exact(h2 e he).mono hfl.1 hfl.2
 have S':SR G C' (ρ++[s.heap.objs.size]) ⟨st++[.tup (vs.drop np)],f_ (vs.take np++[.ref st.length]) n⟩ h'0:=by
  refine⟨R'.ext hk,⟨_,hns,λ i v e=>?_⟩,λ q=>aM _ (R'.lt q),λ i k e=>(by cases e),ok'⟩
  have e1:=m3 e
  refine aQ (rr.get e1) λ x hx rx=>?_
  have hi:i<np+1:=by rw[← hlen2];exact(aa.mp e1).1
  have hi':i<N.vn.length:=aN hi F.np
  have e2:(N.vn.take (np+1))[i]? =some N.vn[i]:=by rw[List.getElem?_take_of_lt hi];exact ae hi'
  exact⟨N.vn[i],x,ae hi',iC _ _ i _ _ (F.nd.sublist (List.take_sublist _ _)) e2 hx,rx⟩
 have:=hb C' ⟨rfl,rfl,λ _=>by refine aQ ok.fl λ l h1 _=>?_;exact⟨l,by show C.A.frames.map _=_;rw[h1];rfl⟩⟩ ⟨st++[.tup (vs.drop np)],f_ (vs.take np++[.ref st.length]) n⟩ (by show b ⟨[],d,hn',kt'⟩ _≠_;rw[hq];exact hn) (ρ++[s.heap.objs.size]) ⟨h'0,s.gens,s.drawn,s.toks+(List.zip (N.vn.take (np+1)) (xs.take np++[.ref s.heap.objs.size])).length,s.os⟩ S'
 rw[show b C'.dn ⟨st++[.tup (vs.drop np)],f_ (vs.take np++[.ref st.length]) n⟩=q from hq]at this
 exact this _ _ λ ρ' a h' tk' p S'' ra=>hQ ρ' a h' tk' ((ai _ _).trans p) S''.rep ra
end
noncomputable def noNm:Nm:=⟨[],[],true⟩
structure wR (G:Gd) (N:Nm) (np:Nat) (vk:List VK) (nc:Nat) (f:Addr) (fd:FuncData) (body:List Stmt):Prop where
 isAt:∃o,G.K.lookup f=some o/\o.data= .func fd
 code:codeIn G.K fd.code fd.qualname=true
 bd:fd.body= .stmts body
 gl:fd.globals=mainGlobals
 bi:fd.builtins=builtinsNs
 clo:fd.closure=[]
 bind:∀xs:List Value,xs.length=np->bindArgs fd ⟨xs,[]⟩=pure (List.zip (N.vn.take np) xs)
 np:np<=N.vn.length
 cn:(fd.scope.names.map (·.1)).Nodup
 nd:N.vn.Nodup
 len:vk.length=N.vn.length
 ent:∀p∈List.zip N.vn vk,ux noNm fd.scope.names p=true
 nc:(bM fd.scope.names).length=nc
 dbg:∀x∈N.vn,(x == ("__debug__":Str))=false
 glo:∀x∈N.gs,fd.scope.names.lookup x=some .globalImplicit/\(x == ("__debug__":Str))=false
 co:fd.scope.isCoroutine=false
 gen:fd.scope.isGenerator=false
 kind:fd.scope.kind= .function
noncomputable def l_ (D:Dn)(vs:List AV):Nat->AS->RU:=List.rec (motive:=λ _=>Nat->AS->RU) (λ _ σ=>.ok σ) (λ v _ ih i σ=>(gV i D v σ).b .no (ih (Nat.succ i))) vs
noncomputable def o_ (vk:List VK)(nc n:Nat)(b:SF)(d:Nat)(hn:Bool)(kt:Nat->Option (List AV))(vs:List AV)(st:List AO):RF:=Op.b (fo vk [] st.length) .no λ cs'=>(l_ ⟨cs',d,hn,kt⟩ vs 0 ⟨st++List.replicate nc (.cell none),List.replicate n none⟩).b .no λ σ1=>b ⟨cs',d,hn,kt⟩ σ1
noncomputable def k8 (np:Nat)(vk:List VK)(nc n:Nat)(b:SF)(D:Dn)(vs:List AV)(σ:AS):RV:=bb (Nat.beq vs.length np) (Nat.rec (motive:=λ _=>RV) .no (λ d _=>RF.rec (motive:=λ _=>RV) .no (λ σ'=>.ok .none ⟨σ'.st,σ.fr⟩) (λ _=>.no) (λ _=>.no) (λ v σ'=>.ok v ⟨σ'.st,σ.fr⟩) (o_ vk nc n b d D.hn D.kt vs σ.st)) D.d) .no
section
variable{M:Model}{A:Around}{E:Value->Shared->Prop}{s:Shared}
theorem fV {scope:Scope}{globals:Addr}{cl:List (Str×Addr)}{binds:List (Str×Value)}{qual:Str}{func:Option Addr}{code:Value}{builtins:Addr}{Q:Env->Shared->Prop}
  (hQ:wpAny M A (forIn binds PUnit.unit λ x (_:PUnit)=>match x with|(n,v)=>do storeName (newEnv scope s.heap.objs.size globals (cellsFrom (s.heap.objs.size+1) scope.names cl) qual func code none builtins) n v;pure (ForInStep.yield PUnit.unit))
   (λ _ s'=>Q (newEnv scope s.heap.objs.size globals (cellsFrom (s.heap.objs.size+1) scope.names cl) qual func code none builtins) s') E {s with heap:=pushCells (s.heap.push {cls:=.type "frame",data:=.dict #[]}) scope.names}):
  wpAny M A (newFunctionEnv scope globals cl binds qual func code none builtins) Q E s:=by
 simp only[newFunctionEnv,Option.isSome_none,Bool.false_eq_true,if_false]
 refine wpAny_bind (wpAny_alloc ?_)
 refine wpAny_bind (wpAny_layCells _ (λ name kind cells=>by cases hkc:kind == NameKind.cell<;>simp[hkc]) _ _ _ _ ?_)
 rw[show({s with heap:=s.heap.push {cls:=.type "frame",data:=.dict #[]}}:Shared).heap.objs.size=s.heap.objs.size+1 from Heap.size_push ..]
 exact wpAny_bind (wpAny_mono hQ (λ _ s' h=>wpAny_pure h) λ _ _ h=>h)
end
section
variable{G:Gd}
theorem uZ {C:Cx}{f:Str×Value->PUnit->Sem (ForInStep PUnit)}(hf:∀n v u,f (n,v) u=(do storeName C.env n v;pure (.yield ⟨⟩))){E:Value->Shared->Prop}:∀(vs:List AV) (xs:List Value) (i:Nat) (σ σ':AS) (ρ:List Addr) (s:Shared) (Q:PUnit->Shared->Prop),l_ C.dn vs i σ= .ok σ'->VRs G.KT ρ vs xs->i+vs.length<=C.nms.length->SR G C ρ σ s.heap->
  (∀ρ' h' tk',ρ<+:ρ'->SR G C ρ' σ' h'->Q ⟨⟩ {s with heap:=h',toks:=tk'})->wpAny (model G.prog G.w) C.A (forIn (List.zip (C.nms.drop i) xs) PUnit.unit f) Q E s:=by
 intro vs
 induction vs with
 |nil=>
  intro xs i σ σ' ρ s Q h r hl S hQ
  cases r
  cases h
  rw[List.zip_nil_right,List.forIn_nil]
  exact wpAny_pure (hQ ρ s.heap s.toks (ah _) S)
 |cons v vs ih=>
  intro xs i σ σ' ρ s Q h r hl S hQ
  cases r with
  |@cons _ x _ xs rv rs=>
  refine RU.elim (show((gV i C.dn v σ).b .no (l_ C.dn vs (Nat.succ i)))=RU.ok σ' from h) λ σ1 h1 h2=>?_
  have hi:i<C.nms.length:=by simp at hl;exact ω51 hl
  rw[List.drop_eq_getElem_cons hi,List.zip_cons_cons,List.forIn_cons,hf]
  refine wpAny_bind (wpAny_bind (fy (ae hi) h1 rv S E _ λ ρ1 _ t'1 k'1 p'1 S'1 _=>wpAny_pure ?_))
  exact ih xs (i+1) σ1 σ' ρ1 ⟨t'1,s.gens,s.drawn,k'1,s.os⟩ Q h2 (rs.mono p'1) (by simp at hl;exact ω55 hl) S'1 λ ρ2 t'2 k'2 p'2 S'2=>hQ ρ2 t'2 k'2 (p'1.trans p'2) S'2
end
theorem nJ {α β:Type}:∀(l:List α) (r:List β),List.zip (l.take r.length) r=List.zip l r
 |[],r=>by simp
 |a::l,[]=>by simp
 |a::l,b::r=>by simp[nJ l r]
section
variable{G:Gd}{N:Nm}{np n nc:Nat}{vk:List VK}{f:Addr}{fd:FuncData}{body:List Stmt}{b:SF}
theorem ow (F:wR G N np vk nc f fd body)(hb:fw G N b body){C:Cx}(ok:CxOk G C){d:Nat}(hd:d+1<=C.d){hn':Bool}(hhn:hn'=true->C.hn=true){kt':Nat->Option (List AV)}(hkt:∀i xs,kt' i=some xs->∃a,G.KT.tab i=some (a,xs)){B:Base}{ρ:List Addr}{st:List AO}{s:Shared}(hsz:G.h0.objs.size<=s.heap.objs.size)(hsm:B sysModules≠none)(hhb:∀a o,G.h0.get? a=some o->B a≠none)(hB:∀h,Kept B h->Kept C.B h)(hfl:∀l,C.A.frames=some l->(∀e∈l,FrOk C.B C.env.locals e)->∀L e,e∈l->FrOk B L e)(R:Rep G.KT B ρ st s.heap)
  {vs:List AV} {xs:List Value} (hl:vs.length=np) (r:VRs G.KT ρ vs xs) {q:RF} (hq:o_ vk nc n b d hn' kt' vs st=q) (hn:q≠.no) {Q:Result->Shared->Prop}
  (hQ:∀ρ' a h' tk',ρ<+:ρ'->Rep G.KT B ρ' q.st.st h'->Rf G.KT ρ' q a->Q (.ok (.ret (match a with|.ret v=>v|_=>.none))) {s with heap:=h',toks:=tk'}):
  codeAny (model G.prog G.w) C.A (.call (.ref f) ⟨xs,[]⟩) Q s:=by
 have K0:Kept C.B s.heap:=hB _ R.kept
 have X:=ok.kin _ K0
 have T:=ok.top _ K0
 refine aQ F.isAt λ o ho hdat=>?_
 have hlx:xs.length=np:=by rw[← r.length,hl]
 refine Op.elim hq (hz:=Ne.symm hn) λ cs' h1 hq=>?_
 refine RU.elim hq (hz:=Ne.symm hn) λ σ1 h2 hq=>?_
 refine codeAny_call_function (fd:=fd) (body:=body) (by have:=ok.dep;exact ω4 this) (X _ _ ho) hdat F.co F.gen F.bd (codeRec_of X F.code) ?_
 rw[F.bind xs hlx]
 refine wpAny_pure ?_
 rw[F.clo]
 refine fV ?_
 generalize hE:newEnv fd.scope s.heap.objs.size fd.globals (cellsFrom (s.heap.objs.size+1) fd.scope.names []) (fd.qualname++".<locals>.") (some f) fd.code none fd.builtins=env
 let Ad:Around:=C.A.deeper env
 have R'1:=R.ext (h':=s.heap.push {cls:=.type "frame",data:=.dict #[]}) λ b o e=>av _ e
 have R'2:=Rep.pushCells fd.scope.names _ _ _ (by rw[Heap.size_push];have:3<s.heap.objs.size:=T.g.lt;exact ω56 this) R'1
 rw[Heap.size_push,F.nc]at R'2
 have hns:(pushCells (s.heap.push {cls:=.type "frame",data:=.dict #[]}) fd.scope.names).Ns s.heap.objs.size λ _=>none:=(Heap.Ns.new s.heap (.type "frame")).keeps (pushCells_keeps _ _)
 have hLB:B s.heap.objs.size=none:=by
  cases e:B s.heap.objs.size with
  |none=>rfl
  |some x=>exact absurd (BO.ok.lt (Nat.lt_trans (by decide) T.g.lt) (R.kept _ _ e)) (aM _)
 have hρl:ρ.length=st.length:=R.len
 have hLρ:s.heap.objs.size∉ρ++List.range' (s.heap.objs.size+1) nc:=by
  intro q
  rcases bn.mp q with q|q
  ·exact aM _ (R.lt q)
  ·rw[List.mem_range'_1]at q
   exact ω37 q
 have e1:env.scope=fd.scope:=by rw[← hE];rfl
 have e2:env.locals=s.heap.objs.size:=by rw[← hE];rfl
 have e3:env.globals=fd.globals:=by rw[← hE];rfl
 have e4:env.builtins=fd.builtins:=by rw[← hE];rfl
 have e5:env.cells=cellsFrom (s.heap.objs.size+1) fd.scope.names []:=by rw[← hE];rfl
 have e6:env.frame=some s.heap.objs.size:=by rw[← hE];rfl
 have mk:∀A:Around,A.depth+d<recursionLimit->A.units+8*d+200<cLine->A.handled=C.A.handled->(A.frames=C.A.frames∨A.frames=C.A.frames.map (env::·))->CxOk G ⟨B,A,env,N.vn,N.gs,cs',d,hn',kt'⟩:=by
  intro A a1 a2 a3 a4
  refine⟨by rw[e1];exact F.kind,by rw[e3];exact F.gl,by rw[e4];exact F.bi,F.nd,λ i x hx hk=>?_,F.dbg,by rw[e2];exact hLB,λ x hx=>⟨by unfold Env.kindOf;rw[e1];exact(F.glo x hx).1,(F.glo x hx).2⟩,a1,a2,λ q=>a3.trans (ok.hh (hhn q)),λ h k=>ok.kin h (hB h k),λ h k=>ok.top h (hB h k),λ h k=>ok.tab h (hB h k),λ h k=>ok.b0 h (hB h k),by rw[e2];exact hsz,hsm,hhb,ok.X0,ok.T0,hkt,?_⟩
  rotate_left
  ·refine aQ ok.fl λ l h1 h2=>?_
   have k2:∀e∈l,FrOk B env.locals e:=λ e he=>hfl l h1 h2 _ e he
   rcases a4 with a4|a4
   ·exact⟨l,by show A.frames=_;rw[a4];exact h1,k2⟩
   ·refine⟨env::l,by show A.frames=_;rw[a4,h1];rfl,λ e he=>?_⟩
    rcases List.mem_cons.mp he with rfl|he
    ·exact⟨by rw[e1,F.kind];nofun,_,e6,.inl e2.symm⟩
    ·exact k2 e he
  have hi':i<vk.length:=by rw[F.len];exact(aa.mp hx).1
  have hv:=oy h1 hk _ (ae hi')
  have e6:=F.ent _ (eN hx (ae hi'))
  unfold ux at e6
  dsimp only at e6
  rw[hv]at e6
  show env.scope.names.lookup x=some .local
  rw[e1]
  exact of_decide_eq_true e6
 have S'0:SR G ⟨B,C.A.in1,env,N.vn,N.gs,cs',d,hn',kt'⟩ (ρ++List.range' (s.heap.objs.size+1) nc) ⟨st++List.replicate nc (.cell none),List.replicate n none⟩ (pushCells (s.heap.push {cls:=.type "frame",data:=.dict #[]}) fd.scope.names):=by
  refine⟨R'2,⟨_,by show Heap.Ns _ env.locals _;rw[e2];exact hns,λ i v e=>?_⟩,by show env.locals∉_;rw[e2];exact hLρ,λ i k e=>?_,mk _ (by have:=ok.dep;show C.A.depth+d<_;exact ω57 this hd) (by have:=ok.uni;show C.A.units+1+8*d+200<_;exact ω58 this hd) rfl (.inl rfl)⟩
  ·rw[bX]at e
   split at e<;>cases e
  ·rcases eO h1 e with⟨j,hj,rfl⟩|⟨j,hj,hk⟩
   ·have hi':i<N.vn.length:=by rw[← F.len];exact(aa.mp hj).1
    have e6:=F.ent _ (eN (ae hi') hj)
    have e6:(decide (fd.scope.names.lookup N.vn[i]=some .cell) && decide ((bM fd.scope.names)[j]? =some N.vn[i]))=true:=e6
    simp only[Bool.and_eq_true,decide_eq_true_eq]at e6
    refine⟨N.vn[i],s.heap.objs.size+1+j,ae hi',by show env.cells.lookup _=_;rw[e5];exact fp _ _ _ j _ F.cn e6.2,?_,by show env.scope.names.lookup _=_;rw[e1];exact e6.1⟩
    have hj':j<nc:=by rw[← F.nc];exact(aa.mp e6.2).1
    rw[az (by rw[hρl];exact sk),hρl]
    have:st.length+j - st.length=j:=by exact ω53
    rw[this,List.getElem?_range' (by exact ω43 hj')]
    congr 1
    exact ω44
   ·simp at hk
 have hdn:(⟨cs',d,hn',kt'⟩:Dn)=Cx.dn ⟨B,C.A.in1,env,N.vn,N.gs,cs',d,hn',kt'⟩:=rfl
 rw[hdn]at h2
 have hzip:List.zip (N.vn.take np) xs=List.zip (List.drop 0 N.vn) xs:=by rw[← hlx,nJ];rfl
 rw[hzip]
 refine uZ (C:=⟨B,C.A.in1,env,N.vn,N.gs,cs',d,hn',kt'⟩) (λ n v u=>rfl) vs xs 0 _ σ1 (ρ++List.range' (s.heap.objs.size+1) nc) ⟨pushCells (s.heap.push {cls:=.type "frame",data:=.dict #[]}) fd.scope.names,s.gens,s.drawn,s.toks,s.os⟩ _ h2 (r.mono (ai _ _)) (by have:=F.np;show 0+vs.length<=N.vn.length;exact ω54 hl this) S'0 λ ρ1 t'1 k'1 p'1 S'1=>?_
 have T1:t'1.NoLimit:=(ok.top t'1 (hB _ S'1.rep.kept)).nolimit
 refine⟨T1,codeAny_func ?_⟩
 have S'2:SR G ⟨B,Ad,env,N.vn,N.gs,cs',d,hn',kt'⟩ ρ1 σ1 t'1:=⟨S'1.rep,S'1.fr,S'1.Lρ,S'1.cells,mk _ (by have:=ok.dep;show C.A.depth+1+d<_;exact ω5 this hd) (by have:=ok.uni;show C.A.units+3+8*d+200<_;exact ω6 this hd) rfl (.inr rfl)⟩
 have:=hb ⟨B,Ad,env,N.vn,N.gs,cs',d,hn',kt'⟩ ⟨rfl,rfl,λ _=>by refine aQ ok.fl λ l h1 _=>?_;exact⟨l,by show C.A.frames.map _=_;rw[h1];rfl⟩⟩ σ1 (by show b ⟨cs',d,hn',kt'⟩ σ1≠_;rw[hq];exact hn) ρ1 ⟨t'1,s.gens,s.drawn,k'1,s.os⟩ S'2
 rw[show b (Cx.dn ⟨B,Ad,env,N.vn,N.gs,cs',d,hn',kt'⟩) σ1=q from hq]at this
 exact this _ _ λ ρ' a h' tk' p S'' ra=>hQ ρ' a h' tk' ((ai _ _).trans (p'1.trans p)) S''.rep ra
theorem vJ (F:wR G N np vk nc f fd body)(hb:fw G N b body):SC G (k8 np vk nc n b) (.ref f):=by
 intro C σ σ' vs v h ρ s xs r S E Q hQ
 refine ay h λ hl h=>?_
 have hl:vs.length=np:=aE hl
 rcases hd:C.d with _|d
 ·rw[show C.dn.d=0 from hd]at h;cases h
 rw[show C.dn.d=d+1 from hd]at h
 change (RF.rec (motive:=λ _=>RV) .no (λ σ'=>.ok .none ⟨σ'.st,σ.fr⟩) (λ _=>.no) (λ _=>.no) (λ v σ'=>.ok v ⟨σ'.st,σ.fr⟩) (o_ vk nc n b d C.hn C.kt vs σ.st):RV)= .ok v σ' at h
 refine iM S.base λ oL R' b0 b1 b2 back=>?_
 generalize hq:o_ vk nc n b d C.hn C.kt vs σ.st=q at h
 refine wpAny_call (ow F hb S.ok (d:=d) (by exact ω7 hd) (hn':=C.hn) id (kt':=C.kt) S.ok.ktok (Nat.le_trans S.ok.ab (Nat.le_of_lt S.lnlt)) b1 b2 (λ h k=>k.of_addB S.ok.Lb) (λ l _ h L' e he=>(h e he).mono b0.1 b0.2) R' hl r hq (λ e=>by rw[e]at h;cases h) λ ρ' a h' tk' p R'1 ra=>?_)
 have S'1:=back ρ' _ h' p R'1
 cases q with
 |no=>cases h
 |br=>cases h
 |ct=>cases h
 |nx σ1=>
  cases h
  cases ra
  exact hQ ρ' _ h' tk' p S'1 rfl
 |rt w σ1=>
  cases h
  refine aQ ra λ x z1_ rx=>?_;clear ra;subst z1_
  exact hQ ρ' _ h' tk' p S'1 rx
end
noncomputable def cT (t:TF):EF:=λ D σ=>(t D σ).b .no λ c σ'=>.ok (.bool c) σ'
noncomputable def ny (i:Nat)(a:EF):EF:=λ D σ=>(a D σ).b .no λ v σ1=>(gV i D v σ1).b .no λ σ2=>.ok v σ2
section
variable{G:Gd}{N:Nm}
theorem o7 {i:Nat}{x:Str}{a:EF}{e:PySem.Expr}{npos pos:Pos}(hx:N.vn[i]? =some x)(ha:SE G N a e):SE G N (ny i a) (.NamedExpr (.Name x npos) e pos):=by
 intro C hC σ σ' v h ρ s S E Q hQ
 refine RV.elim h λ w σ1 h1 h=>?_
 refine RU.elim h λ σ2 h2 h=>?_
 cases h
 show wpAny _ _ (eval e C.env >>= λ v=>holding [v] (assign (.Name x npos) C.env v) >>= λ _=>pure v) Q E s
 refine wpAny_bind (ha C hC _ _ _ h1 ρ s S E _ λ ρ1 u t'1 k'1 p'1 S'1 r'1=>?_)
 refine wpAny_bind (wpAny_holding (aW hx C hC _ _ _ h2 ρ1 ⟨t'1,s.gens,s.drawn,k'1,s.os⟩ u r'1 S'1 E _ λ ρ2 _ t'2 k'2 p'2 S'2 _=>?_))
 exact wpAny_pure (hQ ρ2 u t'2 k'2 (p'1.trans p'2) S'2 (r'1.mono p'2))
end
noncomputable def pT (l:List Nat):Bool:=List.rec (motive:=λ _=>Bool) true (λ c _ ih=>bb (Nat.ble c 126) ih false) l
theorem me:∀{l:List Nat},pT l=true->∀c∈l,c<=126
 |[],_,c,hc=>by simp at hc
 |a::l,h,c,hc=>by
  refine ay (show bb (Nat.ble a 126) (pT l) false=true from h) λ h1 h2=>?_
  rcases List.mem_cons.mp hc with rfl|hc
  ·exact bA h1
  ·exact me h2 c hc
noncomputable def l0 (v:AV):Bool:=AV.rec (motive:=λ _=>Bool) true (λ _=>true) (λ _=>true) pT (λ _=>false) (λ _=>false) v
noncomputable def lj (xs:List AV):Bool:=List.rec (motive:=λ _=>Bool) true (λ v _ ih=>bb (l0 v) ih false) xs
noncomputable def wn (a b:AV):Option Bool:=AV.casesOn (motive:=λ _=>Option Bool) a
 (AV.casesOn (motive:=λ _=>Option Bool) b (some true) (λ _=>none) (λ _=>none) (λ _=>none) (λ _=>none) (λ _=>none))
 (λ x=>AV.casesOn (motive:=λ _=>Option Bool) b none (λ y=>some (x == y)) (λ _=>none) (λ _=>none) (λ _=>none) (λ _=>none))
 (λ x=>b.i none λ y=>some (x == y)) (λ x=>b.s none λ y=>some (si x y)) (λ _=>none) (λ _=>none)
noncomputable def xM:List AV->List AV->Option Bool:=λ xs=>List.rec (motive:=λ _=>List AV->Option Bool)
 (λ ys=>List.rec (motive:=λ _=>Option Bool) (some true) (λ _ _ _=>some false) ys)
 (λ x _ ih ys=>List.rec (motive:=λ _=>Option Bool) (some false) (λ y ys _=>Op.b (wn x y) none λ b=>bb b (ih ys) (some false)) ys) xs
noncomputable def wm:List (List AV)->List (List AV)->Option Bool:=λ xs=>List.rec (motive:=λ _=>List (List AV)->Option Bool)
 (λ ys=>List.rec (motive:=λ _=>Option Bool) (some true) (λ _ _ _=>some false) ys)
 (λ x _ ih ys=>List.rec (motive:=λ _=>Option Bool) (some false) (λ y ys _=>Op.b (xM x y) none λ b=>bb b (ih ys) (some false)) ys) xs
noncomputable def io (v:AV):PyData:=match v with
 |.none=>.none
 |.bool b=>.bool b
 |.int i=>.int i
 |.str l=>.str ⟨l.toArray⟩
 |_=>.none
theorem uw {a b:AV}{c:Bool}(h:wn a b=some c):PyData.eqv (io a) (io b)=c:=by
 cases a with
 |none=>cases b<;>cases h;rfl
 |bool x=>cases b<;>cases h;rfl
 |int x=>exact AV.i_elim h λ y e h=>by rw[e];exact aj h
 |str x=>
  refine AV.s_elim h λ y e h=>?_
  rw[e,← aj h]
  show((⟨x.toArray⟩:Str) == ⟨y.toArray⟩)=si x y
  rw[iL,Bool.eq_iff_iff,beq_iff_eq,beq_iff_eq]
  exact⟨λ e=>by simpa using e,λ e=>by rw[e]⟩
 |_=>cases h
theorem pI:∀{xs ys:List AV} {c:Bool},xM xs ys=some c->PyData.eqvAll (xs.map io) (ys.map io)=c
 |[],[],c,h=>by cases h;rfl
 |[],_::_,c,h=>by cases h;rfl
 |_::_,[],c,h=>by cases h;rfl
 |x::xs,y::ys,c,h=>by
  refine Op.elim (show(Op.b (wn x y) none λ b=>bb b (xM xs ys) (some false))=some c from h) λ b h1 h2=>?_
  have e1:=uw h1
  show(PyData.eqv (io x) (io y) && PyData.eqvAll (xs.map io) (ys.map io))=c
  rw[e1]
  cases b with
  |false=>cases h2;rfl
  |true=>exact pI h2
theorem qN:∀{xs ys:List (List AV)} {c:Bool},wm xs ys=some c->PyData.eqvAll (xs.map λ l=>.list (l.map io)) (ys.map λ l=>.list (l.map io))=c
 |[],[],c,h=>by cases h;rfl
 |[],_::_,c,h=>by cases h;rfl
 |_::_,[],c,h=>by cases h;rfl
 |x::xs,y::ys,c,h=>by
  refine Op.elim (show(Op.b (xM x y) none λ b=>bb b (wm xs ys) (some false))=some c from h) λ b h1 h2=>?_
  have e1:=pI h1
  show(PyData.eqvAll (x.map io) (y.map io) && PyData.eqvAll (xs.map _) (ys.map _))=c
  rw[e1]
  cases b with
  |false=>cases h2;rfl
  |true=>exact qN h2
noncomputable def uo (v:AV)(st:List AO):Option (List AV):=v.r none λ r=>xE r st none λ xs=>bb (lj xs) (some xs) none
noncomputable def yW (vs:List AV)(st:List AO):Option (List (List AV)):=List.rec (motive:=λ _=>Option (List (List AV))) (some []) (λ v _ ih=>Op.b (uo v st) none λ x=>Op.b ih none λ r=>some (x::r)) vs
noncomputable def fl2 (v:AV)(st:List AO):Option (List (List AV)):=v.r none λ r=>xE r st none λ xs=>yW xs st
noncomputable def zN (x y:AV)(st:List AO):Option Bool:=Option.rec (motive:=λ _=>Option Bool)
 (Op.b (fl2 x st) none λ xs=>Op.b (fl2 y st) none λ ys=>wm xs ys)
 (λ xs=>Op.b (uo y st) none λ ys=>xM xs ys) (uo x st)
theorem iO {v:AV}(h:l0 v=true):(io v).canLay0=true:=by
 cases v with
 |str l=>
  show PyData.strOk _=true
  unfold PyData.strOk
  rw[Array.all_eq_true']
  intro c hc
  have:=me h c (by simpa using hc)
  simp;exact ω59 this
 |_=>first|rfl|simp only[io,PyData.canLay0]
theorem ju (v:AV):(io v).depth=0:=by cases v<;>first|rfl|simp only[io,PyData.depth]
theorem dP:∀{xs:List AV},lj xs=true->PyData.canLayAll0 (xs.map io)=true
 |[],_=>by simp only[List.map_nil,PyData.canLayAll0]
 |x::xs,h=>by
  refine ay (show bb (l0 x) (lj xs) false=true from h) λ h1 h2=>?_
  rw[bg,PyData.canLayAll0,iO h1,dP h2];rfl
theorem ec:∀(xs:List AV),PyData.depthAll (xs.map io)=0
 |[]=>by simp only[List.map_nil,PyData.depthAll]
 |x::xs=>by
  rw[bg,PyData.depthAll,ju,ec xs];rfl
section
variable{G:Gd}{C:Cx}{ρ:List Addr}{σ:AS}{h:Heap}
theorem pe {v:AV}{x:Value}(hf:l0 v=true)(r:VR G.KT ρ v x):Reads h x (io v) []:=by
 cases v with
 |none=>rw[show x= .none from r];exact .none
 |bool b=>rw[show x= .bool b from r];exact .bool b
 |int i=>refine eE r λ t z1_=>?_;clear r;subst z1_;exact .int _ _
 |str l=>refine eE r λ t z1_=>?_;clear r;subst z1_;exact .str _ _
 |ref=>cases hf
 |kt=>cases hf
theorem yo {xs:List AV}{vs:List Value}(r:VRs G.KT ρ xs vs)(hf:lj xs=true):ReadsAll h vs (xs.map io) []:=by
 induction r with
 |nil=>exact .nil
 |@cons v x xs vs a _ ih=>
  refine ay (show bb (l0 v) (lj xs) false=true from hf) λ h1 h2=>?_
  exact .cons (pe h1 a) (ih h2)
theorem kL (S:SR G C ρ σ h){v:AV}{x:Value}{xs:List AV}(e:uo v σ.st=some xs)(r:VR G.KT ρ v x):lj xs=true/\∃a vs n,x= .ref a/\h.get? a=some ⟨.type "list",none,.seq vs n,#[]⟩/\VRs G.KT ρ xs vs.toList/\Reads h x (.list (xs.map io)) [a]:=by
 refine AV.r_elim e λ i zr e=>gY e nzO λ xs' hst e=>ay e λ hf e=>?_
 cases e
 subst zr
 refine aQ r λ a ha z1_=>?_
 refine bC (S.obj ha hst) λ ob1 ho1 vs n z2_ r1=>?_;subst z1_ z2_
 exact⟨hf,a,vs,n,rfl,ho1,r1,.list ho1 rfl rfl (yo r1 hf)⟩
theorem wg (S:SR G C ρ σ h):∀{vs:List AV} {ws:List Value} {xss:List (List AV)},yW vs σ.st=some xss->VRs G.KT ρ vs ws->(∀l∈xss,lj l=true)/\∃as,ReadsAll h ws (xss.map λ l=>.list (l.map io)) as:=by
 intro vs ws xss e r
 induction r generalizing xss with
 |nil=>cases e;exact⟨λ l hl=>by simp at hl,[],.nil⟩
 |@cons v x vs ws a _ ih=>
  refine Op.elim (show(Op.b (uo v σ.st) none λ x=>Op.b (yW vs σ.st) none λ r=>some (x::r))=some xss from e) λ l h1 e=>?_
  refine Op.elim e λ r h2 e=>?_
  cases e
  refine g9 (kL S h1 a) λ f1 ad _ _ _ _ _ rd=>?_
  refine wy (ih h2) λ f2 as ra=>?_
  refine⟨λ m hm=>?_,_,.cons rd ra⟩
  rcases List.mem_cons.mp hm with rfl|hm
  ·exact f1
  ·exact f2 m hm
theorem un (S:SR G C ρ σ h){v:AV}{x:Value}{xs:List (List AV)}(e:fl2 v σ.st=some xs)(r:VR G.KT ρ v x):(∀l∈xs,lj l=true)/\∃as,Reads h x (.list (xs.map λ l=>.list (l.map io))) as:=by
 refine AV.r_elim e λ i zr e'=>?_;clear e;subst zr
 refine gY e' nzO λ xs' hst e=>?_
 refine aQ r λ a ha z1_=>?_;clear r;subst z1_
 refine bC (S.obj ha hst) λ ob1 ho1 vs n z1_ r1=>?_;subst z1_
 refine wy (wg S e r1) λ f as ra=>?_
 exact⟨f,_,.list ho1 rfl rfl ra⟩
theorem qe {xs:List AV}(h:lj xs=true):SeqAt.shaped (.list (xs.map io))=true:=by
 unfold SeqAt.shaped
 rw[PyData.canLay0,dP h,PyData.depth,ec]
 rfl
theorem qd {xs:List (List AV)}(h:∀l∈xs,lj l=true):SeqAt.shaped (.list (xs.map λ l=>.list (l.map io)))=true:=by
 have e1:PyData.canLayAll0 (xs.map λ l=>PyData.list (l.map io))=true:=by
  induction xs with
  |nil=>simp only[List.map_nil,PyData.canLayAll0]
  |cons l xs ih=>
   rw[bg,PyData.canLayAll0,PyData.canLay0,dP (h l (.head _)),ih λ m hm=>h m (.tail _ hm)];rfl
 have e2:PyData.depthAll (xs.map λ l=>PyData.list (l.map io))<=1:=by
  clear h e1
  induction xs with
  |nil=>simp[PyData.depthAll]
  |cons l xs ih=>
   rw[bg,PyData.depthAll,PyData.depth,ec]
   exact ω60 ih
 unfold SeqAt.shaped
 rw[PyData.canLay0,e1,PyData.depth]
 simp;exact ω61 e2
theorem y9 (S:SR G C ρ σ h){x y:AV}{u v:Value}{c:Bool}(e:zN x y σ.st=some c)(rx:VR G.KT ρ x u)(ry:VR G.KT ρ y v):∃da db as bs,Reads h u da as/\Reads h v db bs/\SeqAt.shaped da=true/\SeqAt.shaped db=true/\PyData.eqv da db=c:=by
 unfold zN at e
 cases q:uo x σ.st with
 |some xs=>
  rw[q]at e
  refine Op.elim (show(Op.b (uo y σ.st) none λ ys=>xM xs ys)=some c from e) λ ys h2 e=>?_
  refine g9 (kL S q rx) λ f1 _ _ _ _ _ _ r1=>?_
  refine g9 (kL S h2 ry) λ f2 _ _ _ _ _ _ r2=>?_
  exact⟨_,_,_,_,r1,r2,qe f1,qe f2,pI e⟩
 |none=>
  rw[q]at e
  refine Op.elim (show(Op.b (fl2 x σ.st) none λ xs=>Op.b (fl2 y σ.st) none λ ys=>wm xs ys)=some c from e) λ xs h1 e=>?_
  refine Op.elim e λ ys h2 e=>?_
  refine wy (un S h1 rx) λ f1 _ r1=>?_
  refine wy (un S h2 ry) λ f2 _ r2=>?_
  exact⟨_,_,_,_,r1,r2,qd f1,qd f2,qN e⟩
end
noncomputable def lb (neg:Bool)(a b:EF):TF:=λ D σ=>(a D σ).b .no λ x σ1=>(b D σ1).b .no λ y σ2=>Op.b (zN x y σ2.st) .no λ c=>.ok (xor neg c) σ2
noncomputable def rR (xs:List AV)(k:AV):Option Bool:=List.rec (motive:=λ _=>Option Bool) (some false) (λ p _ ih=>Op.b (wn p k) none λ b=>Op.b ih none λ c=>some (b||c)) xs
noncomputable def nA (neg:Bool)(a b:EF):TF:=λ D σ=>(a D σ).b .no λ x σ1=>(b D σ1).b .no λ y σ2=>Op.b (uo y σ2.st) .no λ xs=>bb (l0 x) (Op.b (rR xs x) .no λ c=>.ok (xor neg c) σ2) .no
section
variable{G:Gd}{N:Nm}
noncomputable abbrev mi (G:Gd)(op:CmpOp)(f:TF)(a b:EF):Prop:=∀D σ c σ',f D σ= .ok c σ'->∃x y σ1,a D σ= .ok x σ1/\b D σ1= .ok y σ'/\∀(C:Cx) (ρ:List Addr) (s:Shared) (u v:Value),SR G C ρ σ' s.heap->VR G.KT ρ x u->VR G.KT ρ y v->jS G C ρ (compareOp op u v) s (.bool c) σ'
theorem sI {C:Cx}(ok:CxOk G C):C.A.units+64<cLine:=by have:=ok.uni;exact ω62 this
theorem mZ {a b:EF}:mi G .Eq (lb false a b) a b:=by
 intro D σ c σ' h
 refine RV.elim h λ x σ1 h1 h=>?_
 refine RV.elim h λ y σ2 h2 h=>?_
 refine Op.elim h λ d h3 h=>?_
 cases h
 refine⟨_,_,_,h1,h2,λ C ρ s u v S ru rv E Q hQ=>?_⟩
 refine rV (y9 S h3 ru rv) λ da db as bs r1 r2 s1 s2 e=>?_
 refine eq_dataH r1 r2 s1 s2 (sI S.ok) ?_
 rw[e]
 exact hQ ρ _ s.heap s.toks (ah _) S (by cases(d)<;>rfl)
theorem m0:∀{xs:List AV} {k:AV} {c:Bool},rR xs k=some c->((xs.map io).any λ y=>PyData.eqv y (io k))=c
 |[],k,c,h=>by cases h;rfl
 |x::xs,k,c,h=>by
  refine Op.elim (show(Op.b (wn x k) none λ b=>Op.b (rR xs k) none λ c=>some (b||c))=some c from h) λ b h1 h2=>?_
  refine Op.elim h2 λ d h3 h4=>?_
  cases h4
  show(PyData.eqv (io x) (io k)||((xs.map io).any λ y=>PyData.eqv y (io k)))=(b||d)
  rw[uw h1,m0 h3]
theorem yL {a b:EF}:mi G .In (nA false a b) a b:=by
 intro D σ c σ' h
 refine RV.elim h λ x σ1 h1 h=>?_
 refine RV.elim h λ y σ2 h2 h=>?_
 refine Op.elim h λ xs h3 h=>?_
 refine ay h λ f1 h=>?_
 refine Op.elim h λ d h4 h=>?_
 cases h
 refine⟨_,_,_,h1,h2,λ C ρ s u v S ru rv E Q hQ=>?_⟩
 refine g9 (kL S h3 rv) λ f2 _ _ _ _ _ _ r2=>?_
 refine SeqAt.in_list_reads r2 (pe f1 ru) (dP f2) (iO f1) (by rw[ec,ju];have:=S.ok.uni;simp;exact ω63 this) ?_
 rw[m0 h4]
 exact hQ ρ _ s.heap s.toks (ah _) S (by cases(d)<;>rfl)
theorem v9 {a b:EF}:mi G .NotIn (nA true a b) a b:=by
 intro D σ c σ' h
 refine RV.elim h λ x σ1 h1 h=>?_
 refine RV.elim h λ y σ2 h2 h=>?_
 refine Op.elim h λ xs h3 h=>?_
 refine ay h λ f1 h=>?_
 refine Op.elim h λ d h4 h=>?_
 cases h
 refine⟨_,_,_,h1,h2,λ C ρ s u v S ru rv E Q hQ=>?_⟩
 refine g9 (kL S h3 rv) λ f2 _ _ _ _ _ _ r2=>?_
 refine SeqAt.notIn_list_reads r2 (pe f1 ru) (dP f2) (iO f1) (by rw[ec,ju];have:=S.ok.uni;simp;exact ω63 this) ?_
 rw[m0 h4]
 exact hQ ρ _ s.heap s.toks (ah _) S (by cases(d)<;>rfl)
end
section
variable{α:Type}(lt:α->α->Bool)
variable{lt}(as:∀a b,lt a b=true->lt b a=false)(tr:∀a b c,lt b a=false->lt c b=false->lt c a=false)
include as tr
end
noncomputable def jg (xs:List AV):Option (List Int):=List.rec (motive:=λ _=>Option (List Int)) (some []) (λ v _ ih=>Op.b ih none λ r=>v.i none λ i=>some (i::r)) xs
theorem lJ:∀{xs:List AV} {ns:List Int},jg xs=some ns->xs=ns.map .int
 |[],_,h=>by cases h;rfl
 |v::xs,ns,h=>by
  refine Op.elim (show(Op.b (jg xs) none λ r=>v.i none λ i=>some (i::r))=some ns from h) λ r h1 h2=>?_
  refine AV.i_elim h2 λ i e_1 h3=>?_;subst e_1
  cases h3
  rw[lJ h1];rfl
section
variable{G:Gd}{N:Nm}
end
theorem ip (a:Addr):
  Meets (Builtin.«bool.__new__» ⟨[.type "bool",.ref a],[]⟩) (λ _ R s=>∃items,s.heap.IsList a items/\items.size<=16777216/\∀tk,R (.ok (.ret (.bool (!items.isEmpty)))) {s with toks:=tk}):=
 Meets.of_wp λ prog w A R s hs=>by
  refine bW hs λ items hl hz hs=>?_
  obtain⟨hp,g,d,tk,os⟩:=s
  have f1:=F.conv_sub_bool
  repeat (any_goals(first|assumption|(refine wpAny_truthy_list (items:=items) hl (by exact xW hz) ?_)|wp_step))
  all_goals first|exact⟨_,rfl,hs _⟩|exact hs _|skip
section
variable{G:Gd}{N:Nm}
noncomputable def ma:CF:=λ D vs σ=>match vs with
 |[x]=>match x with
  |.ref r=>Op.b (vd x σ.st) .no λ b=>.ok (.bool b) σ
  |_=>.no
 |_=>.no
theorem vK:SC G ma (.type "bool"):=by
 intro C σ σ' vs v h ρ s xs r S E Q hQ
 unfold ma at h
 split at h
 ·split at h
  ·rename_i i
   cases r with
   |cons rk rs=>
   cases rs
   refine Op.elim h λ b h1 h=>?_
   cases h
   refine aQ rk λ a ha z1_=>?_;clear rk;subst z1_
   simp only[vd]at h1
   split at h1
   ·rename_i zs hst
    split at h1
    ·rename_i hz
     cases h1
     refine bC (S.obj ha hst) λ ob ho vs n z1_ r=>?_;subst z1_
     have hlen:=r.length
     have hsz:=bA hz
     refine call_bool_1 (ip a) ⟨vs,⟨_,ho,rfl,n,rfl⟩,by(have:vs.size=zs.length:=by simp[hlen]);exact ω14 this hsz,λ tk=>⟨rfl,?_⟩⟩
     have:(!vs.isEmpty)=!zs.isEmpty:=by
      rw[← Array.isEmpty_toList]
      generalize vs.toList=l at r
      cases r<;>rfl
     rw[this]
     exact hQ ρ _ s.heap tk (ah _) S rfl
    ·cases h1
   ·cases h1
  ·cases h
 ·cases h
noncomputable def le:CF:=λ D vs σ=>match vs with
 |[x]=>Op.b (mU x σ.st) .no λ p=>.ok (.ref σ.st.length) ⟨σ.st++[.tup p.2],σ.fr⟩
 |_=>.no
theorem tf:SC G le (.type "tuple"):=by
 intro C σ σ' vs v h ρ s xs r S E Q hQ
 unfold le at h
 split at h
 ·cases r with
  |cons rk rs=>
  cases rs
  refine aQ (Op.inv h (by nofun)) λ z1_ h1 h=>?_;obtain⟨p,l⟩:=z1_
  cases h
  refine cY (gj S h1 rk) λ a its n ha z1_ hst ho r1 hz hl=>?_;subst z1_
  refine call_tuple_list ⟨_,ho,rfl,n,rfl⟩ (λ h' hk=>?_) (by rw[sizeLine_eq];exact je hz)
  have S'1:=S.ext hk
  have S'2:=S'1.push (ob:={cls:=.type "tuple",data:=.seq its}) (o:=.tup l) rfl ⟨_,_,rfl,r1.mono (ai _ _)⟩
  exact hQ _ _ _ s.toks (ai _ _) S'2 ⟨_,by rw[← S.rep.len];simp,rfl⟩
 ·cases h
noncomputable def r_ (xs:List AV):Option (List Nat):=List.rec (motive:=λ _=>Option (List Nat)) (some []) (λ v _ ih=>Op.b ih none λ r=>v.s none λ l=>bb (Nat.ble l.length 1000) (some (l++r)) none) xs
theorem n9:∀ts:List Str,(Str.join ⟨#[]⟩ ts).cps.toList=(ts.map λ x=>x.cps.toList).flatten
 |[]=>rfl
 |[x]=>by simp[Str.join]
 |x::y::ts=>by
  have ih:=n9 (y::ts)
  show((x.cps++#[])++(Str.join ⟨#[]⟩ (y::ts)).cps).toList=_
  rw[Array.toList_append,ih]
  simp
theorem q_ {KT:b4}{ρ:List Addr}:∀{xs:List AV} {l:List Nat} {vs:List Value},r_ xs=some l->VRs KT ρ xs vs->∃ps:List (Str×Tok),vs=PySem.strValues ps/\(ps.map λ p=>p.1.cps.toList).flatten=l/\∀y∈ps.map (·.1),y.length<=1000
 |[],_,_,h,r=>by cases h;cases r;exact⟨[],rfl,rfl,λ y hy=>by simp at hy⟩
 |v::xs,l,_,h,r=>by
  refine Op.elim (show(Op.b (r_ xs) none λ r=>v.s none λ l=>bb (Nat.ble l.length 1000) (some (l++r)) none)=some l from h) λ r' h1 h2=>?_
  refine AV.s_elim h2 λ m e_1 h3=>?_;subst e_1
  refine ay h3 λ h4 h5=>?_
  cases h5
  cases r with
  |cons a rs=>
  refine eE a λ t z1_=>?_;clear a;subst z1_
  refine bW (q_ h1 rs) λ ps e1 e2 e3=>?_
  subst e1
  refine⟨(⟨m.toArray⟩,t)::ps,rfl,by simp[← e2],λ y hy=>?_⟩
  rw[bg]at hy
  rcases List.mem_cons.mp hy with rfl|hy
  ·show m.toArray.size<=1000
   simpa using bA h4
  ·exact e3 y hy
noncomputable def jF:MF:=λ D o vs σ=>match o,vs with
 |.str [],[x]=>Op.b (mU x σ.st) .no λ p=>bb (Nat.ble p.2.length 1000) (Op.b (r_ p.2) .no λ l=>.ok (.str l) σ) .no
 |_,_=>.no
theorem qb:SM G jF .str "join" "str.join":=by
 refine⟨F.plainAttrs_str,F.slot_str_join,F.type_str_join,?_⟩
 intro C σ σ' o vs v h ρ s x xs r rs S E Q hQ
 unfold jF at h
 split at h
 ·cases rs with
  |cons rk rs=>
  cases rs
  refine aQ (Op.inv h (by nofun)) λ z1_ h1 h=>?_;obtain⟨p,l⟩:=z1_
  refine ay h λ h2 h=>?_
  refine Op.elim h λ m h3 h=>?_
  cases h
  refine cY (gj S h1 rk) λ a its n ha z1_ hst ho r1 hz hl=>?_;subst z1_
  refine bW (q_ h3 r1) λ ps e1 e2 e3=>?_
  refine eE r λ t z1_=>?_;clear r;subst z1_
  have h2:=bA h2
  have hlp:ps.length=l.length:=by
   have:=r1.length
   rw[e1]at this
   simpa[PySem.strValues]using this.symm
  refine SC.join (l:=ps) ⟨_,ho,rfl,n,by rw[← e1]⟩ rfl ?_ λ t' k=>?_
  ·unfold JoinOk
   rw[StrLaws.joinFits (B:=1000) e3 (by change l.length<=1000 at h2;simp[Str.length];exact ω84 hlp h2)]
   rfl
  ·have e4:Txt.join ⟨([]:List Nat).toArray⟩ (ps.map (·.1))=⟨m.toArray⟩:=by
    unfold Txt.join
    rw[StrLaws.glued_eq_join]
    have e5:∀z:Str,z.cps.toList=m->z=⟨m.toArray⟩:=λ z hz=>by
     obtain⟨⟨z⟩⟩:=z
     change z=m at hz
     rw[hz]
    refine e5 _ ?_
    have e6:=n9 (ps.map (·.1))
    rw[List.map_map]at e6
    exact e6.trans e2
   rw[e4]
   exact hQ ρ _ s.heap k (ah _) S ⟨_,rfl⟩
 ·cases h
noncomputable def qv:MF:=λ D o vs σ=>o.r .no λ r=>List.casesOn (motive:=λ _=>RV) vs (zO r σ.st .no λ _ _ _=>.ok (.ref σ.st.length) ⟨σ.st++[.vals r],σ.fr⟩) λ _ _=>.no
theorem rE:SM G qv .dict "values" "dict.values":=by
 refine⟨F.plainAttrs_dict,F.slot_dict_values,F.type_dict_values,?_⟩
 intro C σ σ' o vs v h ρ s x xs r rs S E Q hQ
 refine AV.r_elim h λ i zr h'=>?_;clear h;subst zr
 cases rs with
 |nil=>
 refine jb h' nzV λ kd kvs ep hst h=>?_
 cases h
 refine aQ r λ a ha z1_=>?_;clear r;subst z1_
 obtain⟨knd,enc,D,xs,hda,hr⟩:=g_ S ha hst
 refine call_meetsIn F.slot_dict_values hda.dictOf.typeIs F.entry_dict_values (F.args_dict_values_1 _) (meets_dict_values knd a (S.nsm (ac ha))) ⟨⟨xs,hda.dictOf⟩,?_⟩
 have S'2:=S.push (ob:={cls:=.type "dict_values",data:=.fields #[.ref a]}) (o:=.vals i) rfl ⟨a,cx (ai _ _) ha,rfl,rfl⟩
 exact hQ _ _ _ _ (ai _ _) S'2 ⟨_,by rw[← S.rep.len];simp,rfl⟩
 |cons _ _=>cases h'
end
noncomputable def vb (G:Gd)(tgt:PySem.Expr):Prop:=∀(A:Around) (E:Value->Shared->Prop) (ρ:List Addr) (I:IT) (k:Nat) (ob:Obj) (it:Addr) (v:Value) (s:Shared) (Q:Unit->Shared->Prop),s.heap.get? it=some ob->ItO G ρ I k ob->Q () s->wpAny (model G.prog G.w) A (letOwnedTupleGo tgt (.ref it) v) Q E s
theorem vV {G:Gd}{elts:List PySem.Expr}{x1}{pos:Pos}:vb G (.Tuple elts x1 pos):=by
 intro A E ρ I k ob it v s Q hit hI hQ
 have key:∀(T:String) (vs:Array Value) (a:Addr),ob.cls= .type T->ob.data= .fields vs->(["enumerate","zip","dict_itemiterator","dict_reverseitemiterator","odict_iterator","itertools.zip_longest","itertools.pairwise"].contains T)=false->
   wpAny (model G.prog G.w) A (letOwnedTupleGo (.Tuple elts x1 pos) (.ref it) (.ref a)) Q E s:=by
  intro T vs a hc hd hT
  unfold letOwnedTupleGo
  refine wpAny_bind (wpAny_load hit ?_)
  rw[hc,hd]
  dsimp only
  rw[hT,Bool.false_and,if_neg (by nofun)]
  exact wpAny_pure hQ
 cases v with
 |ref a=>
  cases I with
  |li r=>refine bW hI λ b e hc hd=>?_;exact key _ _ a hc hd (by decide)
  |tu r=>refine bW hI λ b e hc hd=>?_;exact key _ _ a hc hd (by decide)
  |kt i xs=>refine bW hI λ b e hc hd=>?_;exact key _ _ a hc hd (by decide)
  |rg x c n=>
   have e:ob=_:=hI
   subst e
   exact key "range_iterator" _ a rfl rfl (by decide)
  |dk r n ep=>refine bW hI λ b e hc hd=>?_;exact key _ _ a hc hd (by decide)
  |dv r n ep=>refine bW hI λ b e hc hd=>?_;exact key _ _ a hc hd (by decide)
 |_=>exact wpAny_pure hQ
noncomputable def xA (kt:Nat->Option (List AV))(v:AV)(st:List AO):Option (AV×AV):=AV.casesOn (motive:=λ _=>Option (AV×AV)) v none (λ _=>none) (λ _=>none) (λ _=>none)
 (λ r=>Op.b (cy st r) none λ o=>Op.b o.gT none p2) (λ i=>Op.b (kt i) none p2)
noncomputable def gT2 (i j:Nat):GF:=λ D v σ=>bb D.hn (Op.b (xA D.kt v σ.st) .no λ p=>(gV i D p.1 σ).b .no λ σ1=>gV j D p.2 σ1) .no
section
variable{G:Gd}{N:Nm}
theorem tG {C:Cx}{ρ:List Addr}{σ:AS}{h:Heap}(S:SR G C ρ σ h){v:AV}{x:Value}{p:AV×AV}(e:xA C.kt v σ.st=some p)(r:VR G.KT ρ v x):∃a y z,x= .ref a/\h.IsTuple a #[y,z]/\VR G.KT ρ p.1 y/\VR G.KT ρ p.2 z:=by
 have xx:∀{ρ:List Addr} {a b:AV} {vs:Array Value},VRs G.KT ρ [a,b] vs.toList->∃y z,vs=#[y,z]/\VR G.KT ρ a y/\VR G.KT ρ b z:=by
  intro ρ a b vs r
  obtain⟨l⟩:=vs
  cases r with
  |cons r1 r2=>
  cases r2 with
  |cons r2 r3=>
  cases r3
  exact⟨_,_,rfl,r1,r2⟩
 cases v with
 |ref i=>
  refine Op.elim e λ o h1 e=>Op.elim e λ l h2 e=>?_
  rw[aS,AO.gT_ok h2,xB e]at h1
  refine aQ r λ a ha z1_=>?_
  refine bC (S.obj ha h1) λ ob ho vs n z2_ r1=>?_
  refine bR (xx r1) λ y z z3_ r2 r3=>?_
  exact⟨a,y,z,z1_,⟨_,ho,by rw[z2_],n,by rw[z2_,z3_]⟩,r2,r3⟩
 |kt i=>
  refine Op.elim e λ l h1 e=>?_
  rw[xB e]at h1
  refine eE (S.ok.ktok _ _ h1) λ ad hkt=>?_
  refine bC (S.ok.tab _ S.rep.kept _ _ hkt) λ ob ho vs n z2_ r1=>?_
  refine bR (xx r1) λ y z z3_ r2 r3=>?_
  exact⟨ad,y,z,VR.kt_of hkt r,⟨_,ho,by rw[z2_],n,by rw[z2_,z3_]⟩,r2.mono (List.nil_prefix ..),r3.mono (List.nil_prefix ..)⟩
 |_=>cases e
theorem vA {i j:Nat}{x y:Str}{p q pos:Pos}{x1}(hx:N.vn[i]? =some x)(hy:N.vn[j]? =some y):SG G N (gT2 i j) (.Tuple [.Name x p,.Name y q] x1 pos):=by
 intro C hC σ σ' v h ρ s u r S E Q hQ
 refine ay h λ hn h=>?_
 refine Op.elim h λ pr h1 h=>?_
 refine RU.elim h λ σ1 h2 h3=>?_
 refine eI (tG S h1 r) λ a y' z' z1_ ht r1 r2=>?_;subst z1_
 refine wpAny_assign_Tuple (S.ok.hh hn) ht rfl rfl λ h' he=>?_
 have S'1:SR G C ρ σ h':=S.ext λ b o e=>he b o (λ q=>aM _ (q▸Heap.lt_size e)) e
 refine wpAny_assignInOrder_more (wpAny_assign_Name (fy (s:=⟨h',s.gens,s.drawn,s.toks,s.os⟩) (by rw[hC.1];exact hx) h2 r1 S'1 E _ λ ρ1 _ t'1 k'1 p'1 S'2 _=>?_))
 refine wpAny_assignInOrder_more (wpAny_assign_Name (fy (s:=⟨t'1,s.gens,s.drawn,k'1,s.os⟩) (by rw[hC.1];exact hy) h3 (r2.mono p'1) S'2 E _ λ ρ2 _ t'2 k'2 p'2 S3 _=>?_))
 exact wpAny_assignInOrder_none (hQ ρ2 _ t'2 k'2 (p'1.trans p'2) S3 rfl)
theorem wc {n:Nat}{t:GF}{b o:SF}{tgt:PySem.Expr}{body orelse:List Stmt}(ht:SG G N t tgt)(hb:fw G N b body)(ho:fw G N o orelse)(hlet:vb G tgt)
  {C:Cx} (hC:C.is N) {σ:AS} {I:IT} {r:RF} (hr:cb n t b o C.dn I 0 σ=r) (h:r≠.no) {ρ:List Addr} {s:Shared} {it:Addr} {ob:Obj} (S:SR G C ρ σ s.heap) (hh:C.A.handled=none) (hit:s.heap.get? it=some ob) (hI:ItO G ρ I 0 ob) (hρ:it∉ρ) (hL:it≠C.env.locals) (hB:C.B it=none)
  (E:Value->Shared->Prop) (Q:Result->Shared->Prop) (hQ:∀ρ' a h' tk',ρ<+:ρ'->SR G C ρ' r.st h'->Rf G.KT ρ' r a->Q (.ok a) {s with heap:=h',toks:=tk'}):
  codeAny (model G.prog G.w) C.A (.forLoop tgt (.ref it) body orelse C.env) Q s:=by
 refine codeAny_forLoop_any (I:=wQ G C ρ s it I t b o r) ?_ n ⟨ρ,σ,s.heap,s.toks,0,ob,rfl,ah _,S,hit,hI,hρ,hr⟩
 rintro n _ ⟨ρ',σ',h',tk',k,ob,rfl,p'0,S',hit',hI',hρ',hr'⟩
 cases n with
 |zero=>exact absurd hr'.symm h
 |succ n=>
  have hr2:(Op.b (b7 I k σ'.st) .no λ z=>Option.rec (motive:=λ _=>RF) (o C.dn σ') (λ v=>(t C.dn v σ').b .no λ σ1=>RF.rec (motive:=λ _=>RF) .no (cb n t b o C.dn I (Nat.succ k)) .nx (cb n t b o C.dn I (Nat.succ k)) .rt (b C.dn σ1)) z)=r:=hr'
  refine Op.elim hr2 (hz:=Ne.symm h) λ z hz hr3=>?_
  refine jY (s:=⟨h',s.gens,s.drawn,tk',s.os⟩) S' hh hit' hI' hz ?_ ?_
  ·rintro rfl h'1 he
   have S'1:SR G C ρ' σ' h'1:=S'.extBut he hρ' hL hB
   have hr4:o C.dn σ'=r:=hr3
   have:=ho C hC σ' (by rw[hr4];exact h) ρ' ⟨h'1,s.gens,s.drawn,tk',s.os⟩ S'1
   rw[hr4]at this
   exact this _ _ λ ρ2 a t'2 k'2 p'2 S'2 r'2=>hQ ρ2 a t'2 k'2 (p'0.trans p'2) S'2 r'2
  ·rintro v rfl x h'1 tk1 ob'1 he hob hI1 rx
   have S'1:SR G (C.add it ob'1) ρ' σ' h'1:=(S'.extBut he hρ' hL hB).add hob hρ' hL hB
   have hr4:((t C.dn v σ').b .no λ σ1=>RF.rec (motive:=λ _=>RF) .no (cb n t b o C.dn I (Nat.succ k)) .nx (cb n t b o C.dn I (Nat.succ k)) .rt (b C.dn σ1))=r:=hr3
   refine RU.elim hr4 (hz:=Ne.symm h) λ σ1 h1 hr5=>?_
   refine hlet _ _ _ _ _ _ _ x ⟨h'1,s.gens,s.drawn,tk1,s.os⟩ _ hob hI1 ?_
   refine ht (C.add it ob'1) hC _ _ _ h1 ρ' ⟨h'1,s.gens,s.drawn,tk1,s.os⟩ x rx S'1 _ _ λ ρ1 u t'1 k'1 p'1 S'2 _=>?_
   have go:∀ρ2 σ2 t'2 k'2,ρ1<+:ρ2->SR G (C.add it ob'1) ρ2 σ2 t'2->cb n t b o C.dn I (Nat.succ k) σ2=r->∃m,m<n+1/\wQ G C ρ s it I t b o r m {s with heap:=t'2,toks:=k'2}:=by
    intro ρ2 σ2 t'2 k'2 p'2 S3 e
    refine fT (S3.drop S.ok hB) λ S4 g q=>?_
    exact⟨n,Nat.lt_succ_self n,ρ2,σ2,t'2,k'2,k+1,ob'1,rfl,p'0.trans (p'1.trans p'2),S4,g,hI1.mono (p'1.trans p'2),q,e⟩
   have hq:b C.dn σ1≠.no:=λ z=>by rw[z]at hr5;exact h hr5.symm
   refine hb (C.add it ob'1) hC σ1 hq ρ1 ⟨t'1,s.gens,s.drawn,k'1,s.os⟩ S'2 _ _ λ ρ2 a t'2 k'2 p'2 S3 r'2=>?_
   rw[show b (C.add it ob'1).dn σ1=b C.dn σ1 from rfl]at S3 r'2
   cases q:b C.dn σ1 with
   |no=>exact absurd q hq
   |nx σ2=>rw[q]at hr5 S3 r'2;cases r'2;exact go ρ2 _ t'2 k'2 p'2 S3 hr5
   |ct σ2=>rw[q]at hr5 S3 r'2;cases r'2;exact go ρ2 _ t'2 k'2 p'2 S3 hr5
   |br σ2=>
    rw[q]at hr5 S3 r'2
    cases r'2
    cases hr5
    exact hQ ρ2 _ t'2 k'2 (p'0.trans (p'1.trans p'2)) (S3.drop S.ok hB).1 rfl
   |rt v σ2=>
    rw[q]at hr5 S3 r'2
    refine aQ r'2 λ y e r'2=>?_
    rw[e]
    cases hr5
    exact hQ ρ2 _ t'2 k'2 (p'0.trans (p'1.trans p'2)) (S3.drop S.ok hB).1 ⟨y,rfl,r'2⟩
theorem vu {n:Nat}{t:GF}{a:EF}{b o:SF}{tgt e:PySem.Expr}{body orelse:List Stmt}{p:Pos}(ht:SG G N t tgt)(ha:SE G N a e)(hb:fw G N b body)(ho:fw G N o orelse)(hlet:vb G tgt)
  (hf:∀env x,foldedSetIterable e env x=pure x):SS G N (dM n t a b o) (.For tgt e body orelse p):=by
 intro C hC σ h ρ s S E Q hQ
 generalize hr:dM n t a b o C.dn σ=r at h hQ
 refine ay hr (hz:=Ne.symm h) λ hn hr=>?_
 refine RV.elim hr (hz:=Ne.symm h) λ x σ1 h1 hr=>?_
 refine Op.elim hr (hz:=Ne.symm h) λ I h2 hr=>?_
 have hh:=S.ok.hh hn
 refine wpAny_For (ha C hC _ _ _ h1 ρ s S E _ λ ρ1 u t'1 k'1 p'1 S'1 r'1=>?_) (hf _)
 refine i6 (s:=⟨t'1,s.gens,s.drawn,k'1,s.os⟩) S'1 h2 r'1 λ ob h' hI ho' hk=>?_
 refine fT S'1.new λ n1 n2 n3=>?_
 exact wc ht hb ho hlet hC hr h (s:=⟨h',s.gens,s.drawn,k'1,s.os⟩) (S'1.ext hk) hh ho' hI n1 n2 n3 E _ λ ρ2 a t'2 k'2 p'2 S'2 r'2=>hQ ρ2 a t'2 k'2 (p'1.trans p'2) S'2 r'2
end
open AutoSeq1 (wpAny_loadPart')
section
variable{prog:Program}{w:World}{A:Around}{E:Value->Shared->Prop}{s:Shared}
theorem jO (l:Addr)(items:Array Value)(n:Nat):
  Meets (Builtin.«enumerate.__new__» ⟨[.type "enumerate",.ref l],[]⟩) (λ _ R s=>s.heap.get? l=some {cls:=.type "tuple",dict:=none,data:=.seq items n,slots:=#[]}/\
   R (.ok (.ret (.ref (s.heap.push {cls:=.type "tuple_iterator",data:=.fields #[.ref l,.int 0 0]}).objs.size)))
    {s with heap:=(s.heap.push {cls:=.type "tuple_iterator",data:=.fields #[.ref l,.int 0 0]}).push {cls:=.type "enumerate",data:=.fields #[.none,.bool false,.ref s.heap.objs.size,rawInt 0,.none,.none]}}):=
 .of_wp λ prog w A R s h=>by
  obtain⟨hp,g,d,tk,os⟩:=s;refine eA h λ hl h=>?_
  have hsub:=sub_enumerate
  have hL:Heap.IsTuple (Shared.heap ⟨hp,g,d,tk,os⟩) l items:=⟨_,hl,rfl,n,rfl⟩
  wp_walk using wpAny_loadPart' hl
  refine wpAny_stack_any λ st=>wpAny_pure ?_
  split
  ·rename_i c _ _ _ _ _
   cases(c == Value.type "enumerate")
   ·wp_walk using wpAny_loadPart' hl,wpAny_pyIter_tuple hL
    exact⟨_,rfl,h⟩
   ·wp_walk using wpAny_loadPart' hl,wpAny_pyIter_tuple hL
    exact⟨_,rfl,h⟩
  ·wp_walk using wpAny_loadPart' hl,wpAny_pyIter_tuple hL
   exact⟨_,rfl,h⟩
noncomputable def nI (prog:Program)(w:World)(A:Around)(s:Shared)(it:Addr)(x:Value)(P:Obj->Prop):Prop:=
 ∀(Q:Value->Shared->Prop) (E:Value->Shared->Prop),(∀h'1 ob',Heap.SameBut it s.heap h'1->h'1.get? it=some ob'->P ob'->Q x {s with heap:=h'1})->wpAny (model prog w) A (Builtin.SmallTypes.nextOf (.ref it)) Q E s
noncomputable def oP (prog:Program)(w:World)(A:Around)(s:Shared)(it:Addr):Prop:=
 ∀(Q:Value->Shared->Prop) (E:Value->Shared->Prop),(∀h' e,Heap.ExtBut it s.heap h'->(∃o,h'.get? e=some o/\o.cls= .type "StopIteration")->E (.ref e) {s with heap:=h'})->wpAny (model prog w) A (Builtin.SmallTypes.nextOf (.ref it)) Q E s
theorem i0 {it l:Addr}{i:Nat}{items}{x:Value}{Q:Value->Shared->Prop}(hit:s.heap.IsTupleIter it l i)
  (hl:s.heap.IsTuple l items) (hx:items[i]? =some x)
  (hQ:∀h',h'.IsTupleIter it l (i+1)->Heap.SameBut it s.heap h'->Q x {s with heap:=h'}):
  wpAny (model prog w) A (Builtin.SmallTypes.nextOf (.ref it)) Q E s:=by
 refine bW (id hit) λ o ho hc hd=>?_
 refine ja hl λ ol hol _ nl hdl=>?_
 unfold Builtin.SmallTypes.nextOf
 refine wpAny_bind (wpAny_callSpecial?_slot (name:=Str.ofString "__next__") hit.typeIs F.slot_tuple_iterator_next
  (wpAny_call_entry F.slot_tuple_iterator_next hit.typeIs F.entry_tuple_iterator_next ?_ (F.args_tuple_iterator_next_1 _)))
 show wpAny _ _ (field (.ref it) 0 >>= _) _ _ s
 refine wpAny_bind (wpAny_field ho hd (x:=.ref l) rfl ?_)
 show wpAny _ _ (if(Value.ref l == Value.none)=true then _ else _) _ _ s
 rw[if_neg (show¬((Value.ref l == Value.none)=true)from Bool.false_ne_true)]
 show wpAny _ _ (field (.ref it) 1 >>= _) _ _ s
 refine wpAny_bind (wpAny_field ho hd (x:=.int i 0) rfl ?_)
 show wpAny _ _ (seqItems? (.ref l) >>= _) _ _ s
 refine wpAny_bind (wpAny_seqItems hol hdl ?_)
 simp only[Int.toNat_natCast,hx]
 refine wpAny_bind (wpAny_setField ho hd (by simp) (wpAny_pure ⟨x,rfl,wpAny_pure (hQ _ ?_ (bq ..))⟩))
 exact⟨_,Heap.get?_update_self _ ho (Obj.isFreed_of_fields (Obj.data_mapFields hd _)),(Obj.cls_mapFields ..).trans hc,by
  rw[Obj.data_mapFields hd];simp[rawInt]⟩
theorem jn {it l:Addr}{i:Nat}{items}{Q:Value->Shared->Prop}(hh:A.handled=none)
  (hit:s.heap.IsTupleIter it l i) (hl:s.heap.IsTuple l items) (hx:items[i]? =none)
  (hE:∀h' e,Heap.ExtBut it s.heap h'->(∃o,h'.get? e=some o/\o.cls= .type "StopIteration")->E (.ref e) {s with heap:=h'}):
  wpAny (model prog w) A (Builtin.SmallTypes.nextOf (.ref it)) Q E s:=by
 refine bW (id hit) λ o ho hc hd=>?_
 refine ja hl λ ol hol _ nl hdl=>?_
 unfold Builtin.SmallTypes.nextOf
 refine wpAny_bind (wpAny_callSpecial?_slot (name:=Str.ofString "__next__") hit.typeIs F.slot_tuple_iterator_next
  (wpAny_call_entry F.slot_tuple_iterator_next hit.typeIs F.entry_tuple_iterator_next ?_ (F.args_tuple_iterator_next_1 _)))
 show wpAny _ _ (field (.ref it) 0 >>= _) _ _ s
 refine wpAny_bind (wpAny_field ho hd (x:=.ref l) rfl ?_)
 show wpAny _ _ (if(Value.ref l == Value.none)=true then _ else _) _ _ s
 rw[if_neg (show¬((Value.ref l == Value.none)=true)from Bool.false_ne_true)]
 show wpAny _ _ (field (.ref it) 1 >>= _) _ _ s
 refine wpAny_bind (wpAny_field ho hd (x:=.int i 0) rfl ?_)
 show wpAny _ _ (seqItems? (.ref l) >>= _) _ _ s
 refine wpAny_bind (wpAny_seqItems hol hdl ?_)
 simp only[Int.toNat_natCast,hx]
 refine wpAny_bind (wpAny_rule (wpAny_bind (wpAny_setField ho hd (by simp) ?_)))
 show wpAny _ _ (newExc (.type "StopIteration") [] >>= _) _ _ _
 refine wpAny_bind ?_
 simp only[newExc,newTuple]
 refine wpAny_bind (wpAny_newObj_type ?_ (by size_fits))
 refine wpAny_bind (m:=firstArgMember _ _) (wpAny_of_eq (a:=Value.none) (by first|rfl|(simp only[firstArgMember];rfl)) ?_)
 refine wpAny_newObj_type ?_ (by size_fits)
 simp only[raiseNew]
 refine wpAny_bind (wpAny_handled ?_)
 first|rw[show A.in1.handled=none from hh]|rw[hh]
 refine wpAny_bind (wpAny_pure (wpAny_throw ?_))
 exact hE _ _ (((bq ..).extBut.push _).push _) ⟨_,aY _ rfl,rfl⟩
theorem lz {e it:Addr}{i:Nat}{x old:Value}{P:Obj->Prop}{Q:Value->Shared->Prop}
  (he:IsEnum s.heap e it i old) (hnx:nI prog w A s it x P) (hne:e≠it) (hlt:it<s.heap.objs.size)
  (hQ:∀h' ob',IsEnumOut h' e it ((i:Int)+1) x s.heap.objs.size->h'.get? it=some ob'->P ob'->
   h'.get? s.heap.objs.size=some {cls:=.type "tuple",data:=.seq #[.int i s.toks,x]}->h'.objs.size=s.heap.objs.size+1->
   (∀b o,b≠e->b≠it->s.heap.get? b=some o->h'.get? b=some o)->Q (.ref s.heap.objs.size) {s with heap:=h',toks:=s.toks+1}):
  wpAny (model prog w) A (Builtin.«enumerate.__next__» ⟨[.ref e],[]⟩) (λ fin s'=>∃v,fin= .done (.ret v)/\Q v s') E s:=by
 obtain⟨hp,g,d,tk,os⟩:=s
 show wpAny _ _ (field (.ref e) 2 >>= _) _ _ _
 refine wpAny_bind (wpAny_field he rfl (x:=.ref it) rfl ?_)
 refine wpAny_bind (hnx _ _ λ h'1 ob' hs'1 hob hP=>?_)
 replace hs'1:Heap.SameBut it hp h'1:=hs'1
 have he1:IsEnum h'1 e it i old:=(hs'1.2 e hne).trans he
 show wpAny _ _ (field (.ref e) 3 >>= _) _ _ ⟨h'1,g,d,tk,os⟩
 refine wpAny_bind (wpAny_field he1 rfl (x:=rawInt i) rfl ?_)
 show wpAny _ _ (field (.ref e) 4 >>= _) _ _ ⟨h'1,g,d,tk,os⟩
 refine wpAny_bind (wpAny_field he1 rfl (x:=.none) rfl ?_)
 show wpAny _ _ (mkInt i >>= _) _ _ ⟨h'1,g,d,tk,os⟩
 refine wpAny_bind (wpAny_mkInt ?_)
 show wpAny _ _ (setField (.ref e) 3 (rawInt ((i:Int)+1)) >>= _) _ _ ⟨h'1,g,d,tk+1,os⟩
 refine wpAny_bind (wpAny_setField_rec he1 (by simp) λ h'2 he2 hs2=>?_)
 replace hs2:Heap.SameBut e h'1 h'2:=hs2
 replace he2:IsEnum h'2 e it ((i:Int)+1) old:=he2
 show wpAny _ _ (setField (.ref e) 4 .none >>= _) _ _ ⟨h'2,g,d,tk+1,os⟩
 refine wpAny_bind (wpAny_setField_rec he2 (by simp) λ h'3 he3 hs3=>?_)
 replace hs3:Heap.SameBut e h'2 h'3:=hs3
 replace he3:IsEnum h'3 e it ((i:Int)+1) old:=he3
 show wpAny _ _ (newTuple [.int i tk,x] >>= _) _ _ ⟨h'3,g,d,tk+1,os⟩
 refine wpAny_bind (wpAny_newTuple ?_)
 have he4:IsEnum (h'3.push {cls:=.type "tuple",data:=.seq #[.int i tk,x]}) e it ((i:Int)+1) old:=av _ he3
 generalize hh4:h'3.push {cls:=.type "tuple",data:=.seq #[.int i tk,x]}=h'4 at he4
 have hsz:h'3.objs.size=hp.objs.size:=by rw[hs3.1,hs2.1,hs'1.1]
 have hel:e<hp.objs.size:=Heap.lt_size he
 have ht4:h'4.get? hp.objs.size=some {cls:=.type "tuple",data:=.seq #[.int i tk,x]}:=by rw[← hh4,← hsz];exact aY _ rfl
 have hz4:h'4.objs.size=hp.objs.size+1:=by rw[← hh4,Heap.size_push,hsz]
 have hk4:∀b o,b≠e->b≠it->hp.get? b=some o->h'4.get? b=some o:=λ b o hbe hbi hb=>by
  rw[← hh4];exact av _ (hs3.extBut b o hbe (hs2.extBut b o hbe (hs'1.extBut b o hbi hb)))
 have hit4:h'4.get? it=some ob':=by
  rw[← hh4];exact av _ (hs3.extBut it _ (Ne.symm hne) (hs2.extBut it _ (Ne.symm hne) hob))
 show wpAny _ _ (Builtin.SmallTypes.ownedTupleIsFree (.ref e) >>= _) _ _ ⟨h'4,g,d,tk+1,os⟩
 rw[hsz]
 clear hh4 he3 hs3 he2 hs2 he1 hs'1 hob hsz h'3 h'2 h'1
 refine wpAny_bind ?_
 ·unfold Builtin.SmallTypes.ownedTupleIsFree
  refine wpAny_bind (wpAny_field he4 rfl (x:=.none) rfl (wpAny_pure ?_))
  simp only[if_true]
  refine wpAny_bind (wpAny_rule ?_)
  refine wpAny_bind (wpAny_field he4 rfl (x:=old) rfl ?_)
  refine wpAny_bind (wpAny_setField_rec he4 (by simp) λ h'5 he5 hs5=>?_)
  replace hs5:Heap.SameBut e h'4 h'5:=hs5
  replace he5:IsEnum h'5 e it ((i:Int)+1) x:=he5
  show wpAny _ _ (Builtin.SmallTypes.ownedTupleHandOut (.ref e) (.ref hp.objs.size) >>= _) _ _ ⟨h'5,g,d,tk+1,os⟩
  refine wpAny_bind ?_
  ·unfold Builtin.SmallTypes.ownedTupleHandOut
   refine wpAny_bind (wpAny_setField_rec he5 (by simp) λ h'6 he6 hs6=>?_)
   replace hs6:Heap.SameBut e h'5 h'6:=hs6
   replace he6:IsEnumOut h'6 e it ((i:Int)+1) x hp.objs.size:=he6
   refine wpAny_setField_rec he6 (by simp) λ h'7 he7 hs7=>?_
   replace hs7:Heap.SameBut e h'6 h'7:=hs7
   replace he7:IsEnumOut h'7 e it ((i:Int)+1) x hp.objs.size:=he7
   refine wpAny_bind (wpAny_letGo (wpAny_pure ⟨_,rfl,hQ h'7 ob' he7 ?_ hP ?_ ?_ ?_⟩))
   ·exact hs7.extBut _ _ (Ne.symm hne) (hs6.extBut _ _ (Ne.symm hne) (hs5.extBut _ _ (Ne.symm hne) hit4))
   ·exact hs7.extBut _ _ (Nat.ne_of_gt hel) (hs6.extBut _ _ (Nat.ne_of_gt hel) (hs5.extBut _ _ (Nat.ne_of_gt hel) ht4))
   ·rw[hs7.1,hs6.1,hs5.1,hz4]
   ·exact λ b o hbe hbi hb=>hs7.extBut b o hbe (hs6.extBut b o hbe (hs5.extBut b o hbe (hk4 b o hbe hbi hb)))
theorem jN {e it:Addr}{i:Nat}{x old:Value}{P:Obj->Prop}{Q:Option Value->Shared->Prop}
  (he:IsEnum s.heap e it i old) (hnx:∀A',A'.handled=A.handled->nI prog w A' s it x P) (hne:e≠it) (hlt:it<s.heap.objs.size)
  (hQ:∀h' ob',IsEnumOut h' e it ((i:Int)+1) x s.heap.objs.size->h'.get? it=some ob'->P ob'->
   h'.get? s.heap.objs.size=some {cls:=.type "tuple",data:=.seq #[.int i s.toks,x]}->h'.objs.size=s.heap.objs.size+1->
   (∀b o,b≠e->b≠it->s.heap.get? b=some o->h'.get? b=some o)->Q (some (.ref s.heap.objs.size)) {s with heap:=h',toks:=s.toks+1}):
  wpAny (model prog w) A (pyNext (.ref e)) Q E s:=by
 have hT:s.TypeIs (.ref e) "enumerate":=⟨_,he,rfl⟩
 unfold pyNext
 exact wpAny_bind (wpAny_attempt (wpAny_callSpecial?_slot (name:=Str.ofString "__next__") hT F.slot_enumerate_next
  (wpAny_call_entry F.slot_enumerate_next hT F.entry_enumerate_next
   (lz he (hnx _ rfl) hne hlt λ h' ob' a b c d z k=>wpAny_pure (hQ h' ob' a b c d z k)) (F.args_enumerate_next_1 _))))
theorem jl {e it:Addr}{i:Nat}{old:Value}{Q:Option Value->Shared->Prop}
  (he:IsEnum s.heap e it i old) (hnx:∀A',A'.handled=A.handled->oP prog w A' s it)
  (hQ:∀h',Heap.ExtBut it s.heap h'->Q none {s with heap:=h'}):wpAny (model prog w) A (pyNext (.ref e)) Q E s:=by
 have hT:s.TypeIs (.ref e) "enumerate":=⟨_,he,rfl⟩
 unfold pyNext
 refine wpAny_bind (wpAny_attempt (wpAny_callSpecial?_slot (name:=Str.ofString "__next__") hT F.slot_enumerate_next
  (wpAny_call_entry F.slot_enumerate_next hT F.entry_enumerate_next ?_ (F.args_enumerate_next_1 _))))
 show wpAny _ _ (field (.ref e) 2 >>= _) _ _ _
 refine wpAny_bind (wpAny_field he rfl (x:=.ref it) rfl ?_)
 refine wpAny_bind (hnx A.in1 rfl _ _ λ h' x he' hx'=>?_)
 refine aQ hx' λ o ho hc=>?_
 refine wpAny_bind (wpAny_isInstance (T:="StopIteration") (b:=true) ⟨o,ho,hc⟩ isSubtype_stop ?_)
 exact wpAny_pure (hQ _ he')
theorem jQ {l:Addr}{items:Array Value}{n:Nat}{Q:Value->Shared->Prop}
  (hl:s.heap.get? l=some {cls:=.type "tuple",dict:=none,data:=.seq items n,slots:=#[]})
  (h:∀h',IsEnum h' (s.heap.objs.size+1) s.heap.objs.size 0 .none->h'.IsTupleIter s.heap.objs.size l 0->h'.objs.size=s.heap.objs.size+2->
   (∀b o,s.heap.get? b=some o->h'.get? b=some o)->Q (.ref (s.heap.objs.size+1)) {s with heap:=h'}):
  wpAny (model prog w) A (call (.type "enumerate") [.ref l]) Q E s:=by
 refine callType_new F.called_enumerate (by decide) (F.typeCall_enumerate_1 _) (F.newCall_enumerate_1 _) (λ obj=>F.args_object_init_2 obj _) F.entry_enumerate_new
  (jO l items n) ⟨hl,?_⟩
 have hz:(s.heap.push {cls:=.type "tuple_iterator",data:=.fields #[.ref l,.int 0 0]}).objs.size=s.heap.objs.size+1:=Heap.size_push ..
 show _/\_
 rw[hz]
 have he:IsEnum ((s.heap.push {cls:=.type "tuple_iterator",data:=.fields #[.ref l,.int 0 0]}).push
   {cls:=.type "enumerate",data:=.fields #[.none,.bool false,.ref s.heap.objs.size,rawInt 0,.none,.none]}) (s.heap.objs.size+1) s.heap.objs.size 0 .none:=by
  have:=aY (s.heap.push {cls:=.type "tuple_iterator",data:=.fields #[.ref l,.int 0 0]})
   (o:={cls:=.type "enumerate",data:=.fields #[.none,.bool false,.ref s.heap.objs.size,rawInt 0,.none,.none]}) rfl
  rw[hz]at this;exact this
 refine⟨⟨_,he,rfl⟩,h _ he ⟨_,av _ (aY _ rfl),rfl,rfl⟩ (by rw[Heap.size_push,hz]) λ b o x=>av _ (av _ x)⟩
end
noncomputable def uz (I:IT):Bool:=match I with
 |.li _=>true
 |.kt _ _=>true
 |_=>false
noncomputable def gP (n i j:Nat)(b o:SF)(D:Dn)(it:IT):Nat->AS->RF:=Nat.rec (motive:=λ _=>Nat->AS->RF) (λ _ _=>.no)
 (λ _ ih k σ=>Op.b (b7 it k σ.st) .no λ z=>Option.rec (motive:=λ _=>RF) (o D σ) (λ v=>(gV i D (.int (.ofNat k)) σ).b .no λ σ'=>(gV j D v σ').b .no λ σ1=>RF.rec (motive:=λ _=>RF) .no (ih (Nat.succ k)) .nx (ih (Nat.succ k)) .rt (b D σ1)) z) n
noncomputable def tn (n i j:Nat)(a:EF)(b o:SF):SF:=λ D σ=>bb D.hn ((a D σ).b .no λ x σ1=>Op.b (cF D.kt x σ1.st) .no λ it=>bb (uz it) (gP n i j b o D it 0 σ1) .no) .no
section
variable{G:Gd}{N:Nm}
theorem py {C:Cx}{ρ:List Addr}{σ:AS}{s:Shared}{I:IT}{k:Nat}{it:Addr}{ob:Obj}{v:AV}(S:SR G C ρ σ s.heap)(hen:uz I=true)(ho:s.heap.get? it=some ob)(hI:ItO G ρ I k ob)(e:b7 I k σ.st=some (some v)):
  ∃x,VR G.KT ρ v x/\∀A',nI G.prog G.w A' s it x (λ ob'=>ItO G ρ I (k+1) ob'):=by
 cases I with
 |li r=>
  refine Op.elim e λ o hst e=>?_
  rw[aS]at hst
  cases o with
  |list xs=>
   have hz:=(aS _ _).symm.trans (aj e)
   refine bW hI λ a ha hc hd=>?_
   refine bC (S.obj ha hst) λ ob1 ho1 vs n z1_ r1=>?_;subst z1_
   have hit:s.heap.IsListIter it a k:=⟨ob,ho,hc,hd⟩
   have hl:s.heap.IsList a vs:=⟨_,ho1,rfl,n,rfl⟩
   refine aQ (r1.get hz) λ x hx rx=>?_
   refine⟨x,rx,λ A' Q E hQ=>wpAny_nextOf_list_item hit hl (x:=x) (by simpa using hx) λ h' hi he=>?_⟩
   refine bW hi λ ob' ho' hc' hd'=>?_
   exact hQ h' ob' he ho' ⟨a,ha,hc',hd'⟩
  |_=>cases e
 |kt j xs=>
  replace e:some (cy xs k)=_:=e
  rw[aS]at e
  have hz:=aj e
  refine bW hI λ a ha hc hd=>?_
  refine bC (S.ok.tab _ S.rep.kept _ _ ha) λ ob1 ho1 vs n z1_ r1=>?_;subst z1_
  have hit:s.heap.IsTupleIter it a k:=⟨ob,ho,hc,hd⟩
  have hl:s.heap.IsTuple a vs:=⟨_,ho1,rfl,n,rfl⟩
  refine aQ (r1.get hz) λ x hx rx=>?_
  refine⟨x,rx.mono (List.nil_prefix ..),λ A' Q E hQ=>i0 hit hl (x:=x) (by simpa using hx) λ h' hi he=>?_⟩
  refine bW hi λ ob' ho' hc' hd'=>?_
  exact hQ h' ob' he ho' ⟨a,ha,hc',hd'⟩
 |_=>cases hen
theorem px {C:Cx}{ρ:List Addr}{σ:AS}{s:Shared}{I:IT}{k:Nat}{it:Addr}{ob:Obj}(S:SR G C ρ σ s.heap)(hen:uz I=true)(ho:s.heap.get? it=some ob)(hI:ItO G ρ I k ob)(e:b7 I k σ.st=some none):
  ∀A':Around,A'.handled=none->oP G.prog G.w A' s it:=by
 cases I with
 |li r=>
  refine Op.elim e λ o hst e=>?_
  rw[aS]at hst
  cases o with
  |list xs=>
   have hz:=(aS _ _).symm.trans (aj e)
   refine bW hI λ a ha hc hd=>?_
   refine bC (S.obj ha hst) λ ob1 ho1 vs n z1_ r1=>?_;subst z1_
   have hit:s.heap.IsListIter it a k:=⟨ob,ho,hc,hd⟩
   have hl:s.heap.IsList a vs:=⟨_,ho1,rfl,n,rfl⟩
   refine λ A' hh Q E hQ=>wpAny_nextOf_list_end hh hit hl ?_ hQ
   have:=aK.mp hz
   rw[r1.length]at this
   exact Array.getElem?_eq_none_iff.mpr (by simpa using this)
  |_=>cases e
 |kt j xs=>
  replace e:some (cy xs k)=_:=e
  rw[aS]at e
  have hz:=aj e
  refine bW hI λ a ha hc hd=>?_
  refine bC (S.ok.tab _ S.rep.kept _ _ ha) λ ob1 ho1 vs n z1_ r1=>?_;subst z1_
  have hit:s.heap.IsTupleIter it a k:=⟨ob,ho,hc,hd⟩
  have hl:s.heap.IsTuple a vs:=⟨_,ho1,rfl,n,rfl⟩
  refine λ A' hh Q E hQ=>jn hh hit hl ?_ hQ
  have:=aK.mp hz
  rw[r1.length]at this
  exact Array.getElem?_eq_none_iff.mpr (by simpa using this)
 |_=>cases hen
theorem r7 {C:Cx}{ρ:List Addr}{σ:AS}{s:Shared}{x:AV}{y:Value}{I:IT}{E Q:Value->Shared->Prop}(S:SR G C ρ σ s.heap)(hen:uz I=true)(e:cF C.kt x σ.st=some I)(r:VR G.KT ρ x y)
  (h:∀h' ob,IsEnum h' (s.heap.objs.size+1) s.heap.objs.size 0 .none->h'.get? s.heap.objs.size=some ob->ItO G ρ I 0 ob->(∀b o,s.heap.get? b=some o->h'.get? b=some o)->Q (.ref (s.heap.objs.size+1)) {s with heap:=h'}):
  wpAny (model G.prog G.w) C.A (call (.type "enumerate") [y]) Q E s:=by
 cases x with
 |ref i=>
  refine Op.elim e λ o hst e=>?_
  rw[aS]at hst
  refine aQ r λ a ha z1_=>?_;clear r;subst z1_
  cases o with
  |list xs=>
   cases e
   refine bC (S.obj ha hst) λ ob1 ho1 vs n z1_ r1=>?_;subst z1_
   refine call_enumerate_1 ho1 λ h' he hi _ hk=>?_
   refine bW hi λ ob ho hc hd=>?_
   exact h h' ob he ho ⟨a,ha,hc,hd⟩ hk
  |range a' b' c'=>exact ay e λ _ e=>by cases e;cases hen
  |vals d=>
   refine Op.elim e λ o hst2 e=>?_
   cases o with
   |dict kd kvs ep=>cases e;cases hen
   |_=>cases e
  |tup xs=>cases e;cases hen
  |dict kd kvs ep=>cases e;cases hen
  |_=>cases e
 |kt i=>
  refine Op.elim e λ xs hk e=>?_
  cases e
  refine eE (S.ok.ktok _ _ hk) λ ad hkt=>?_
  cases VR.kt_of hkt r
  refine bC (S.ok.tab _ S.rep.kept _ _ hkt) λ ob1 ho0 vs n z1_ r1=>?_;subst z1_
  refine jQ ho0 λ h' he hi _ hk=>?_
  refine bW hi λ ob ho hc hd=>?_
  exact h h' ob he ho ⟨ad,hkt,hc,hd⟩ hk
 |_=>cases e
noncomputable def xU (G:Gd)(C:Cx)(ρ:List Addr)(s:Shared)(e it:Addr)(I:IT)(i j:Nat)(b o:SF)(r:RF)(n:Nat)(s':Shared):Prop:=∃ρ' σ' h' tk' k ob old,s'={s with heap:=h',toks:=tk'}/\ρ<+:ρ'/\SR G C ρ' σ' h'/\IsEnum h' e it ((k:Nat):Int) old/\h'.get? it=some ob/\ItO G ρ' I k ob/\it∉ρ'/\e∉ρ'/\gP n i j b o C.dn I k σ'=r
theorem wd {n i j:Nat}{b o:SF}{x y:Str}{p q tp:Pos}{x1}{body orelse:List Stmt}(hx:N.vn[i]? =some x)(hy:N.vn[j]? =some y)(hb:fw G N b body)(ho:fw G N o orelse)
  {C:Cx} (hC:C.is N) {σ:AS} {I:IT} (hen:uz I=true) {r:RF} (hr:gP n i j b o C.dn I 0 σ=r) (h:r≠.no) {ρ:List Addr} {s:Shared} {e it:Addr} {ob:Obj} (S:SR G C ρ σ s.heap) (hh:C.A.handled=none) (he:IsEnum s.heap e it 0 .none) (hit:s.heap.get? it=some ob) (hI:ItO G ρ I 0 ob) (hei:e≠it)
  (hρ:it∉ρ) (hL:it≠C.env.locals) (hB:C.B it=none) (hρe:e∉ρ) (hLe:e≠C.env.locals) (hBe:C.B e=none)
  (E:Value->Shared->Prop) (Q:Result->Shared->Prop) (hQ:∀ρ' a h' tk',ρ<+:ρ'->SR G C ρ' r.st h'->Rf G.KT ρ' r a->Q (.ok a) {s with heap:=h',toks:=tk'}):
  codeAny (model G.prog G.w) C.A (.forLoop (.Tuple [.Name x p,.Name y q] x1 tp) (.ref e) body orelse C.env) Q s:=by
 refine codeAny_forLoop_any (I:=xU G C ρ s e it I i j b o r) ?_ n ⟨ρ,σ,s.heap,s.toks,0,ob,.none,rfl,ah _,S,he,hit,hI,hρ,hρe,hr⟩
 rintro n _ ⟨ρ',σ',h',tk',k,ob,old,rfl,p'0,S',he',hit',hI',hρ',hρe',hr'⟩
 cases n with
 |zero=>exact absurd hr'.symm h
 |succ n=>
  have hr2:(Op.b (b7 I k σ'.st) .no λ z=>Option.rec (motive:=λ _=>RF) (o C.dn σ') (λ v=>(gV i C.dn (.int (.ofNat k)) σ').b .no λ σ''=>(gV j C.dn v σ'').b .no λ σ1=>RF.rec (motive:=λ _=>RF) .no (gP n i j b o C.dn I (Nat.succ k)) .nx (gP n i j b o C.dn I (Nat.succ k)) .rt (b C.dn σ1)) z)=r:=hr'
  refine Op.elim hr2 (hz:=Ne.symm h) λ z hz hr3=>?_
  cases z with
  |none=>
   refine jl (s:=⟨h',s.gens,s.drawn,tk',s.os⟩) he' (λ A' hA=>px (s:=⟨h',s.gens,s.drawn,tk',s.os⟩) S' hen hit' hI' hz A' (hA.trans hh)) λ h'1 hx1=>?_
   have S'1:SR G C ρ' σ' h'1:=S'.extBut hx1 hρ' hL hB
   have hr4:o C.dn σ'=r:=hr3
   have:=ho C hC σ' (by rw[hr4];exact h) ρ' ⟨h'1,s.gens,s.drawn,tk',s.os⟩ S'1
   rw[hr4]at this
   exact this _ _ λ ρ2 a t'2 k'2 p'2 S'2 r'2=>hQ ρ2 a t'2 k'2 (p'0.trans p'2) S'2 r'2
  |some v=>
   refine aQ (py (s:=⟨h',s.gens,s.drawn,tk',s.os⟩) S' hen hit' hI' hz) λ xv rx nx=>?_
   refine jN (s:=⟨h',s.gens,s.drawn,tk',s.os⟩) he' (λ A' _=>nx A') hei (Heap.lt_size hit') λ h'1 ob'1 heo hob hI1 htup hsz hk=>?_
   dsimp only at heo htup hsz hk ⊢
   refine wpAny_letOwnedTupleGo_enum heo λ h'2 he2 hs2=>?_
   replace hs2:Heap.SameBut e h'1 h'2:=hs2
   have heH:e<h'.objs.size:=Heap.lt_size he'
   have ht'2:h'2.IsTuple h'.objs.size #[.int k tk',xv]:=⟨_,(hs2.2 _ (Nat.ne_of_gt heH)).trans htup,rfl,_,rfl⟩
   have hz'2:h'2.objs.size=h'.objs.size+1:=hs2.1.trans hsz
   refine wpAny_assign_Tuple hh ht'2 rfl rfl λ h'3 hx3=>?_
   replace hx3:Heap.ExtBut h'2.objs.size h'2 h'3:=hx3
   have old3:∀b o,b≠e->b≠it->h'.get? b=some o->h'3.get? b=some o:=λ b o hbe hbi eb=>hx3 b o (by rw[hz'2];exact Nat.ne_of_lt (Nat.lt_succ_of_lt (Heap.lt_size eb))) (hs2.extBut b o hbe (hk b o hbe hbi eb))
   have he3:IsEnum h'3 e it ((k:Int)+1) xv:=hx3 e _ (by rw[hz'2];exact Nat.ne_of_lt (Nat.lt_succ_of_lt heH)) he2
   have hob3:h'3.get? it=some ob'1:=hx3 it _ (by rw[hz'2];exact Nat.ne_of_lt (Nat.lt_succ_of_lt (Heap.lt_size hit'))) (hs2.extBut it _ (Ne.symm hei) hob)
   have S'1:SR G C ρ' σ' h'3:=by
    refine aQ S'.fr λ m q1 q2=>?_
    refine⟨⟨λ b x eb=>(S'.rep.kept b x eb).mono λ o'=>old3 b o' (λ q=>by rw[q,hBe]at eb;cases eb) (λ q=>by rw[q,hB]at eb;cases eb),S'.rep.len,S'.rep.nd,S'.rep.off,λ i' a' o' e1 e2=>?_⟩,⟨m,q1.at' λ o' eb=>old3 _ o' (Ne.symm hLe) (Ne.symm hL) eb,q2⟩,S'.Lρ,S'.cells,S'.ok⟩
    refine aQ (S'.rep.obj i' a' o' e1 e2) λ ob2 e3 r3=>?_
    exact⟨ob2,old3 _ _ (λ q=>hρe' (q▸ac e1)) (λ q=>hρ' (q▸ac e1)) e3,r3⟩
   obtain⟨oe,hoe,eoe⟩:∃oe,h'3.get? e=some oe/\some oe=some _:=⟨_,he3,rfl⟩
   have hBit:(C.add e oe).B it=none:=by
    show(if it=e then some (BO.ex oe)else C.B it)=none
    rw[if_neg (Ne.symm hei)];exact hB
   have S'2:SR G ((C.add e oe).add it ob'1) ρ' σ' h'3:=(S'1.add hoe hρe' hLe hBe).add hob3 hρ' hL hBit
   have hr4:((gV i C.dn (.int (.ofNat k)) σ').b .no λ σ''=>(gV j C.dn v σ'').b .no λ σ1=>RF.rec (motive:=λ _=>RF) .no (gP n i j b o C.dn I (Nat.succ k)) .nx (gP n i j b o C.dn I (Nat.succ k)) .rt (b C.dn σ1))=r:=hr3
   refine RU.elim hr4 (hz:=Ne.symm h) λ σ'' h1 hr5=>?_
   refine RU.elim hr5 (hz:=Ne.symm h) λ σ1 h2 hr6=>?_
   refine wpAny_assignInOrder_more (wpAny_assign_Name (fy (C:=(C.add e oe).add it ob'1) (s:=⟨h'3,s.gens,s.drawn,tk'+1,s.os⟩) (by show C.nms[i]? =_;rw[hC.1];exact hx) h1 ⟨tk',rfl⟩ S'2 _ _ λ ρ1 _ t'1 k'1 p'1 S3 _=>?_))
   refine wpAny_assignInOrder_more (wpAny_assign_Name (fy (C:=(C.add e oe).add it ob'1) (s:=⟨t'1,s.gens,s.drawn,k'1,s.os⟩) (by show C.nms[j]? =_;rw[hC.1];exact hy) h2 (rx.mono p'1) S3 _ _ λ ρ2 _ t'2 k'2 p'2 S4 _=>?_))
   refine wpAny_assignInOrder_none ?_
   have ok1:CxOk G (C.add e oe):=(S'1.add hoe hρe' hLe hBe).ok
   have pk:ρ'<+:ρ2:=p'1.trans p'2
   have go:∀ρ3 σ3 t'3 k'3,ρ2<+:ρ3->SR G ((C.add e oe).add it ob'1) ρ3 σ3 t'3->gP n i j b o C.dn I (Nat.succ k) σ3=r->∃m,m<n+1/\xU G C ρ s e it I i j b o r m {s with heap:=t'3,toks:=k'3}:=by
    intro ρ3 σ3 t'3 k'3 p'3 S5 e5
    refine fT (S5.drop ok1 hBit) λ S6 g1 q1=>?_
    refine fT (S6.drop S.ok hBe) λ S7 g2 q2=>?_
    refine⟨n,Nat.lt_succ_self n,ρ3,σ3,t'3,k'3,k+1,ob'1,xv,rfl,p'0.trans (pk.trans p'3),S7,?_,g1,hI1.mono (pk.trans p'3),q1,q2,e5⟩
    rw[show(((k+1:Nat):Int))=(k:Int)+1 by push_cast;rfl]
    exact g2.trans eoe
   have fin:∀{ρ3 σ3 t'3},SR G ((C.add e oe).add it ob'1) ρ3 σ3 t'3->SR G C ρ3 σ3 t'3:=λ S5=>((S5.drop ok1 hBit).1.drop S.ok hBe).1
   have hq:b C.dn σ1≠.no:=λ z=>by rw[z]at hr6;exact h hr6.symm
   refine hb ((C.add e oe).add it ob'1) hC σ1 hq ρ2 ⟨t'2,s.gens,s.drawn,k'2,s.os⟩ S4 _ _ λ ρ3 a t'3 k'3 p'3 S5 r'3=>?_
   rw[show b ((C.add e oe).add it ob'1).dn σ1=b C.dn σ1 from rfl]at S5 r'3
   cases q:b C.dn σ1 with
   |no=>exact absurd q hq
   |nx σ2=>rw[q]at hr6 S5 r'3;cases r'3;exact go ρ3 _ t'3 k'3 p'3 S5 hr6
   |ct σ2=>rw[q]at hr6 S5 r'3;cases r'3;exact go ρ3 _ t'3 k'3 p'3 S5 hr6
   |br σ2=>
    rw[q]at hr6 S5 r'3
    cases r'3
    cases hr6
    exact hQ ρ3 _ t'3 k'3 (p'0.trans (pk.trans p'3)) (fin S5) rfl
   |rt v σ2=>
    rw[q]at hr6 S5 r'3
    refine aQ r'3 λ y e r'3=>?_
    rw[e]
    cases hr6
    exact hQ ρ3 _ t'3 k'3 (p'0.trans (pk.trans p'3)) (fin S5) ⟨y,rfl,r'3⟩
theorem vv {n i j:Nat}{a:EF}{b o:SF}{x y:Str}{p q tp cp cpos pos:Pos}{x1}{e:PySem.Expr}{body orelse:List Stmt}(hx:N.vn[i]? =some x)(hy:N.vn[j]? =some y)(hen:xS G N (Str.ofString "enumerate") (.type "enumerate"))(he:fA e)(hp:kx [e])(ha:SE G N a e)(hb:fw G N b body)(ho:fw G N o orelse):
  SS G N (tn n i j a b o) (.For (.Tuple [.Name x p,.Name y q] x1 tp) (.Call (.Name (Str.ofString "enumerate") cp) [e] [] cpos) body orelse pos):=by
 intro C hC σ h ρ s S E Q hQ
 generalize hr:tn n i j a b o C.dn σ=r at h hQ
 refine ay hr (hz:=Ne.symm h) λ hn hr=>?_
 refine RV.elim hr (hz:=Ne.symm h) λ v σ1 h1 hr=>?_
 refine Op.elim hr (hz:=Ne.symm h) λ I h2 hr=>?_
 refine ay hr (hz:=Ne.symm h) λ h3 hr=>?_
 have hh:=S.ok.hh hn
 refine wpAny_For ?_ (λ _=>rfl)
 refine wpAny_Call_NameR (hen C hC ρ s σ cp E _ S (cN _ _ _ _ _ _ (hp C.env cpos) ?_))
 have ha':=(aw (r:=aI) he ha aJ) C hC σ σ1 [v] (by show(aq a aI) C.dn σ=_;unfold aq;rw[h1];rfl) ρ s cpos S E
 rw[he]at ha' ⊢
 refine evalArgs_plain (ha' _ λ ρ1 us t'1 k'1 p'1 S'1 r'1=>⟨S'1.kin,?_⟩)
 cases r'1 with
 |@cons _ u _ _ r1 r2=>
 cases r2
 refine fT S'1.new λ n1 n2 n3=>?_
 refine r7 (s:=⟨t'1,s.gens,s.drawn,k'1,s.os⟩) S'1 h3 h2 r1 λ h' ob henum hob hI hk=>?_
 dsimp only at henum hob hk ⊢
 have S'2:=S'1.ext hk
 refine wpAny_pyIter_enum henum ?_
 have hsz:t'1.objs.size+1∉ρ1/\t'1.objs.size+1≠C.env.locals/\C.B (t'1.objs.size+1)=none:=by
  refine⟨λ q=>?_,λ q=>?_,?_⟩
  ·have:=S'1.rep.lt q;exact aM _ (Nat.lt_trans (Nat.lt_succ_self _) this)
  ·have q1:C.env.locals<t'1.objs.size:=S'1.lnlt
   rw[← q]at q1
   exact aM _ (Nat.lt_trans q1 (Nat.lt_succ_self _))
  ·cases q:C.B (t'1.objs.size+1)with
   |none=>rfl
   |some o'=>have:=BO.ok.lt S'1.big (S'1.rep.kept _ _ q);exact absurd (Nat.lt_trans (Nat.lt_succ_self _) this) (aM _)
 exact wd hx hy hb ho hC h3 hr h (s:=⟨h',s.gens,s.drawn,k'1,s.os⟩) S'2 hh henum hob hI (Nat.ne_of_gt (Nat.lt_succ_self _)) n1 n2 n3 hsz.1 hsz.2.1 hsz.2.2 E _ λ ρ2 a t'2 k'2 p'2 S3 r'2=>hQ ρ2 a t'2 k'2 (p'1.trans p'2) S3 r'2
end
theorem iF:Slot "list_iterator" "__getattribute__" "object.__getattribute__":=
 .of (owner:="object") (n:="__getattribute__") (by rw[typeLookup_type,builtinLookup_eq_fast];kernel_rfl) (by decide+kernel) (by decide+kernel) (by decide+kernel) (by decide+kernel) (by rw[isSubtype_type];kernel_rfl)
theorem iQ:typeOf (.builtin "list_iterator.__next__")=pure (.type "wrapper_descriptor"):=by show builtinType _=_;rw[builtinType_eq_fast];kernel_rfl
theorem sB:typeLookup (.type "wrapper_descriptor") "__get__"=pure (some (.builtin "wrapper_descriptor.__get__")):=by rw[typeLookup_type,builtinLookup_eq_fast];kernel_rfl
theorem x7:typeLookup (.type "wrapper_descriptor") "__set__"=pure none:=by rw[typeLookup_type,builtinLookup_eq_fast];kernel_rfl
theorem x8:typeLookup (.type "wrapper_descriptor") "__delete__"=pure none:=by rw[typeLookup_type,builtinLookup_eq_fast];kernel_rfl
theorem jB:Slot "wrapper_descriptor" "__get__" "wrapper_descriptor.__get__":=
 .of (owner:="wrapper_descriptor") (n:="__get__") sB (by decide+kernel) (by decide+kernel) (by decide+kernel) (by decide+kernel) (by rw[isSubtype_type];kernel_rfl)
theorem ng:entryFor table "wrapper_descriptor.__get__"=some Builtin.«wrapper_descriptor.__get__»:=entryFor_of_tree (by kernel_rfl)
theorem oM (a b c:Value):argsOk "wrapper_descriptor.__get__" ⟨[a,b,c],[]⟩:=by unfold argsOk;kernel_rfl
theorem x_:isSubtype (.type "list_iterator") (.type "list_iterator")=pure true:=by rw[isSubtype_type];kernel_rfl
noncomputable abbrev jG (l:Addr)(k:Nat):Obj:={cls:=.type "list_iterator",dict:=none,data:=.fields #[.ref l,.int k 0],slots:=#[]}
noncomputable abbrev nX (a:Addr):Obj:={cls:=.type "method-wrapper",data:=.fields #[.builtin "list_iterator.__next__",.ref a]}
theorem mP (a:Addr)(tp:Value):Meets (Builtin.«wrapper_descriptor.__get__» ⟨[.builtin "list_iterator.__next__",.ref a,tp],[]⟩) (λ A R s=>s.TypeIs (.ref a) "list_iterator"/\
  R (.ok (.ret (.ref s.heap.objs.size))) {s with heap:=s.heap.push (nX a)}):=
 Meets.of_wp λ prog w A R s hs=>by
  refine eA hs λ hT hs=>?_
  unfold Builtin.«wrapper_descriptor.__get__»
  refine wpAny_bind (wpAny_of_eq (a:=(.builtin "list_iterator.__next__",some (.ref a),(if tp == .none then none else some tp))) (by first|rfl|kernel_rfl) ?_)
  show wpAny _ _ (_ >>= λ _=>_) _ _ _
  refine wpAny_bind ?_
  show wpAny _ _ (_ >>= λ _=>_) _ _ _
  refine wpAny_bind (wpAny_of_eq (a:=(Str.ofString "__next__",.type "list_iterator")) (by first|rfl|kernel_rfl) ?_)
  refine wpAny_bind (wpAny_isInstance hT x_ ?_)
  refine wpAny_pure ?_
  exact wpAny_bind (wpAny_newObj_type (wpAny_pure ⟨_,rfl,hs⟩))
theorem pO {prog:Program}{w:World}{A:Around}{s:Shared}{a:Addr}(R:Result->Shared->Prop)(h:s.TypeIs (.ref a) "list_iterator"/\R (.ok (.ret (.ref s.heap.objs.size))) {s with heap:=s.heap.push (nX a)}):
  codeAny (model prog w) A (.call (.builtin "wrapper_descriptor.__get__") ⟨[.builtin "list_iterator.__next__",.ref a,.type "list_iterator"],[]⟩) R s:=
 codeAny_call_builtin jB.plain ng (jB.check _ _ _ _ _ _ _ _ iQ (oM _ _ _) (mP a (.type "list_iterator") prog w A R s h))
theorem ly (l a:Addr)(k:Nat)(u:Tok):Meets (Builtin.«object.__getattribute__» ⟨[.ref a,.str (Str.ofString "__next__") u],[]⟩) (λ A R s=>s.heap.get? a=some (jG l k)/\
  R (.ok (.ret (.ref s.heap.objs.size))) {s with heap:=s.heap.push (nX a)}):=
 Meets.of_wp λ prog w A R s hs=>by
  obtain⟨hp,g,d,tk,os⟩:=s
  refine eA hs λ hx hs=>?_
  have hT:(⟨hp,g,d,tk,os⟩:Shared).TypeIs (.ref a) "list_iterator":=⟨_,hx,rfl⟩
  have f1:=slot_listiter_next.lookup
  have f2:=iQ
  have f3:=sB
  have f4:=x7
  have f5:=x8
  unfold Builtin.«object.__getattribute__»
  repeat (any_goals(first|assumption|wp_step))
  refine pO _ ⟨hT,?_⟩
  exact wpAny_pure ⟨_,rfl,hs⟩
theorem ui {prog:Program}{w:World}{A:Around}{E:Value->Shared->Prop}{s:Shared}{a l:Addr}{k:Nat}{Q:Value->Shared->Prop}
  (hx:s.heap.get? a=some (jG l k)) (h:∀tk,Q (.ref s.heap.objs.size) {s with heap:=s.heap.push (nX a),toks:=tk}):
  wpAny (model prog w) A (getAttr (.ref a) (Str.ofString "__next__") true) Q E s:=by
 obtain⟨hp,g,d,tk,os⟩:=s
 have hT:∀tk',(⟨hp,g,d,tk',os⟩:Shared).TypeIs (.ref a) "list_iterator":=λ _=>⟨_,hx,rfl⟩
 have f3:=iF.lookup
 have f4:=iF.bind (.ref a)
 unfold getAttr getAttrBy
 repeat (any_goals(first|assumption|exact hT _|((with_reducible show wpAny _ _ (call (Value.builtin "object.__getattribute__") _ _) _ _ _);refine call_meets iF (hT _) F.entry_object_getattribute (F.args_object_getattribute_2 _ _) (ly l a k _) ⟨hx,?_⟩)|wp_step))
 show wpAny _ _ (handedOut _) _ _ _
 unfold handedOut
 first|exact wpAny_pure (h _)|(repeat (any_goals(first|assumption|wp_step)))
 all_goals exact h _
section
variable{prog:Program}{w:World}{A:Around}{E:Value->Shared->Prop}{s:Shared}
theorem mT {it l:Addr}{i:Nat}{items:Array Value}{x:Value}{Q:Fin->Shared->Prop}(ho:s.heap.get? it=some (jG l i))
  (hl:s.heap.IsList l items) (hx:items[i]? =some x) (hQ:∀h',h'.get? it=some (jG l (i+1))->Heap.SameBut it s.heap h'->Q (.done (.ret x)) {s with heap:=h'}):
  wpAny (model prog w) A (Builtin.«list_iterator.__next__» ⟨[.ref it],[]⟩) Q E s:=by
 refine ja hl λ ol hol _ nl hdl=>?_
 have hd:(jG l i).data= .fields #[.ref l,.int i 0]:=rfl
 show wpAny _ _ (field (.ref it) 0 >>= _) _ _ s
 refine wpAny_bind (wpAny_field ho hd (x:=.ref l) rfl ?_)
 show wpAny _ _ (if(Value.ref l == Value.none)=true then _ else _) _ _ s
 rw[if_neg (show¬((Value.ref l == Value.none)=true)from Bool.false_ne_true)]
 show wpAny _ _ (field (.ref it) 1 >>= _) _ _ s
 refine wpAny_bind (wpAny_field ho hd (x:=.int i 0) rfl ?_)
 show wpAny _ _ (seqItems? (.ref l) >>= _) _ _ s
 refine wpAny_bind (wpAny_seqItems hol hdl ?_)
 simp only[Int.toNat_natCast,hx]
 refine wpAny_bind (wpAny_setField ho hd (by simp) (wpAny_pure (hQ _ ?_ (bq ..))))
 have:=Heap.get?_update_self (Obj.mapFields (·.setIfInBounds 1 (rawInt ((i:Int)+1)))) ho (Obj.isFreed_of_fields (Obj.data_mapFields hd _))
 rw[this]
 simp[Obj.mapFields,rawInt]
noncomputable abbrev lM (t:Addr):Obj:={cls:=.type "StopIteration",data:=.fields #[.ref t,.none,.none,.none,.bool false,.none]}
theorem n7 {it l:Addr}{i:Nat}{items:Array Value}{Q:Fin->Shared->Prop}(hh:A.handled=none)(ho:s.heap.get? it=some (jG l i))
  (hl:s.heap.IsList l items) (hx:items[i]? =none)
  (hE:∀h'1,Heap.SameBut it s.heap h'1->(∃o,h'1.get? it=some o)->E (.ref (h'1.objs.size+1)) {s with heap:=(h'1.push {cls:=.type "tuple",data:=.seq #[]}).push (lM h'1.objs.size)}):
  wpAny (model prog w) A (Builtin.«list_iterator.__next__» ⟨[.ref it],[]⟩) Q E s:=by
 refine ja hl λ ol hol _ nl hdl=>?_
 have hd:(jG l i).data= .fields #[.ref l,.int i 0]:=rfl
 show wpAny _ _ (field (.ref it) 0 >>= _) _ _ s
 refine wpAny_bind (wpAny_field ho hd (x:=.ref l) rfl ?_)
 show wpAny _ _ (if(Value.ref l == Value.none)=true then _ else _) _ _ s
 rw[if_neg (show¬((Value.ref l == Value.none)=true)from Bool.false_ne_true)]
 show wpAny _ _ (field (.ref it) 1 >>= _) _ _ s
 refine wpAny_bind (wpAny_field ho hd (x:=.int i 0) rfl ?_)
 show wpAny _ _ (seqItems? (.ref l) >>= _) _ _ s
 refine wpAny_bind (wpAny_seqItems hol hdl ?_)
 simp only[Int.toNat_natCast,hx]
 refine wpAny_bind (wpAny_rule (wpAny_bind (wpAny_setField ho hd (by simp) ?_)))
 show wpAny _ _ (newExc (.type "StopIteration") [] >>= _) _ _ _
 refine wpAny_bind ?_
 simp only[newExc,newTuple]
 refine wpAny_bind (wpAny_newObj_type ?_ (by size_fits))
 refine wpAny_bind (m:=firstArgMember _ _) (wpAny_of_eq (a:=Value.none) (by first|rfl|(simp only[firstArgMember];rfl)) ?_)
 refine wpAny_newObj_type ?_ (by size_fits)
 simp only[raiseNew]
 refine wpAny_bind (wpAny_handled ?_)
 rw[hh]
 refine wpAny_bind (wpAny_pure (wpAny_throw ?_))
 have:=hE (s.heap.update it (Obj.mapFields (·.setIfInBounds 0 Value.none))) (bq ..) ⟨_,Heap.get?_update_self _ ho (Obj.isFreed_of_fields (Obj.data_mapFields hd _))⟩
 rw[Heap.size_push]
 exact this
theorem pP (it:Addr):checkBoundCall "list_iterator.__next__" ⟨[.ref it],[]⟩=pure ():=by first|kernel_rfl|rfl
theorem wH {u it:Addr}{on:Obj}{R:Result->Shared->Prop}(ho:s.heap.get? u=some on)(hc:on.cls= .type "method-wrapper")(hd:on.data= .fields #[.builtin "list_iterator.__next__",.ref it])
  (h:codeAny (model prog w) A (.builtin "list_iterator.__next__" ⟨[.ref it],[]⟩) R s):codeAny (model prog w) A (.call (.ref u) ⟨[],[]⟩) R s:=by
 refine codeAny_of_tree ?_
 show wpAny _ A.in1 (callAny (.ref u) ⟨[],[]⟩) _ _ s
 simp only[callAny]
 refine wpAny_bind (wpAny_load ho ?_)
 rw[hd]
 simp only[hc,show(Value.type "method-wrapper" == Value.type "method"||Value.type "method-wrapper" == Value.type "builtin_function_or_method"||Value.type "method-wrapper" == Value.type "method-wrapper")=true by decide,if_true]
 refine KFB.if_so (by decide) ?_
 refine wpAny_bind (wpAny_of_eq (a:=()) (pP it) ?_)
 refine wpAny_bind (wpAny_pure (wpAny_pure ?_))
 exact⟨Code.quiet_builtin _ (by decide+kernel),h⟩
theorem oC {pos:Pos}{u it:Addr}{on:Obj}{Q:Value->Shared->Prop}(ho:s.heap.get? u=some on)(hc:on.cls= .type "method-wrapper")(hd:on.data= .fields #[.builtin "list_iterator.__next__",.ref it])
  (h:wpAny (model prog w) A (call (.ref u) []) Q E s):wpAny (model prog w) A (callWith pos (.ref u) [] [] []) Q E s:=by
 unfold callWith
 refine wpAny_bind (wpAny_holding (evalArgs_nil3 (wpAny_bind (wpAny_standAt ?_))))
 simp only[List.any_nil,Bool.or_false]
 refine wpAny_bind (m:=keeperOf (.ref u)) ?_
 unfold keeperOf
 refine wpAny_bind (wpAny_load ho ?_)
 rw[hd]
 simp only[hc,show(Value.type "method-wrapper" != Value.type "method")=true by decide,show(Value.type "method-wrapper" == Value.type "builtin_function_or_method"||Value.type "method-wrapper" == Value.type "method-wrapper")=true by decide,if_true]
 refine wpAny_pure ?_
 exact wpAny_bind (wpAny_mono h (λ r s'2 hr=>wpAny_bind (wpAny_holding (wpAny_point (wpAny_pure hr)))) λ _ _ x=>x)
end
section
variable{prog:Program}{w:World}{A:Around}{E:Value->Shared->Prop}{s:Shared}{K:Type}[DecidableEq K] {knd:PySem.KeyKind prog w K}
theorem o0 {d:Addr}{kvs:List (K×Value)}{ep:Nat}{k:K}{key:Value}{Q:Option DictEntry->Shared->Prop}(hkey:knd.is k key=true)(hm:s.heap.DictAt knd d kvs ep)
  (hthere:valueAt kvs k≠none)
  (hsome:∀e,∀h',h'.DictAt knd d (without kvs k) (ep+1)->Heap.SameBut d s.heap h'->Q (some e) {s with heap:=h',toks:=s.toks+1})
  (hsz:kvs.length<=sizeLine):
  wpAny (model prog w) A (Builtin.Dict.takeOut d key) Q E s:=by
 refine dB hm λ o es ho hc hd hk hp hn=>?_
 have hes:es.size<=sizeLine:=by have e1:=hp.length;(have e2:es.toList.length=es.size:=by simp);exact ω12 e1 hsz
 unfold Builtin.Dict.takeOut
 try with_reducible refine wpAny_holding ?_
 refine wpAny_bind (knd.pyHash hkey ?_)
 refine wpAny_bind (wpAny_dictFind_of (s:={s with toks:=s.toks+1}) hkey ho hd hk ?_)
 cases hi:es.findIdx? λ e=>knd.is k e.key with
 |none=>
  refine absurd ?_ hthere
  rw[← hp.find k]
  have:(es.toList.find? λ e=>knd.is k e.key)=none:=by
   rw[List.find?_eq_none]
   intro e he
   have:=Array.findIdx?_eq_none_iff.mp hi e (Array.mem_toList_iff.mp he)
   simpa using this
  rw[this];rfl
 |some i=>
  have hl:(es.toList.findIdx? λ e=>knd.is k e.key)=some i:=by rw[← hi];obtain⟨l⟩:=es;simp
  refine bW (hp.at hl) λ e he hek hev=>?_
  refine wpAny_bind (wpAny_dictEntries (s:={s with toks:=s.toks+1}) ho hd ?_)
  have he':es[i]? =some e:=by rw[← he];obtain⟨l⟩:=es;simp
  rw[he']
  refine wpAny_bind (wpAny_updateDictKeys (hz:=hes) (s:={s with toks:=s.toks+1}) ho hd (wpAny_pure (hsome e _ ⟨_,_,Heap.get?_update_self _ ho (Obj.isFreed_of_dict (Obj.data_mapDictKeys hd _)),
   hc.mapDictKeys _,Obj.data_mapDictKeys hd _,hk.erase _,?_,nodup_without hn k⟩ (bq ..))))
  have:=hp.erase hn hl
  obtain⟨l⟩:=es
  simpa using this
theorem pM {d:Addr}{kvs:List (K×Value)}{ep:Nat}{k:K}{key:Value}{Q:Unit->Shared->Prop}(hkey:knd.is k key=true)(hm:s.heap.DictAt knd d kvs ep)
  (hthere:valueAt kvs k≠none)
  (hQ:∀h',h'.DictAt knd d (without kvs k) (ep+1)->Heap.SameBut d s.heap h'->Q () {s with heap:=h',toks:=s.toks+1})
  (hsz:kvs.length<=sizeLine):wpAny (model prog w) A (delItem (.ref d) key) Q E s:=by
 have hT:s.TypeIs (.ref d) "dict":=hm.dictOf.typeIs
 refine wpAny_delItem_slot hT (by decide) F.slot_dict_delitem (wpAny_call_entry F.slot_dict_delitem hT F.entry_dict_delitem ?_ (F.args_dict_delitem_2 _ _))
 unfold Builtin.«dict.__delitem__»
 refine wpAny_bind ?_
 unfold Builtin.Dict.dictSlotArgs
 refine wpAny_bind (wpAny_notOrdered_dict hT ?_)
 show wpAny _ _ (pure (Value.ref d,key)) _ _ s
 refine wpAny_pure ?_
 show wpAny _ _ (Builtin.Dict.takeOut d key >>= _) _ _ s
 refine wpAny_bind (o0 hkey hm hthere (λ e h' hm' hs'=>?_) hsz)
 exact wpAny_bind (wpAny_letGo (wpAny_pure ⟨.none,rfl,hQ h' hm' hs'⟩))
end
section
variable{KT:b4}{ρ:List Addr}{K:Type}[DecidableEq K] {knd:PySem.KeyKind KT.prog KT.w K}{enc:K->AV}
theorem KVR.del (D:KD KT knd enc){kvs:List (AV×AV)}{xs:List (K×Value)}(r:KVR KT ρ enc kvs xs){k:K}:KVR KT ρ enc (wC kvs (enc k)) (without xs k):=by
 induction r with
 |nil=>exact .nil
 |@cons k' v' x' kvs xs hv' _ ih=>
  change KVR KT ρ enc (bb (eM (enc k') (enc k)) (wC kvs (enc k)) ((enc k',v')::wC kvs (enc k))) _
  unfold without
  rw[D.eq]
  by_cases h:k'=k
  ·rw[show decide (k'=k)=true by simp[h],List.filter_cons_of_neg (by simp[h])]
   exact ih
  ·rw[show decide (k'=k)=false by simp[h],List.filter_cons_of_pos (by simp[h])]
   exact .cons hv' ih
end
noncomputable def dDel (o key:AV)(st:List AO):Option (List AO):=o.r none λ r=>zO r st none λ kd kvs ep=>bb (fg kd key) (bb (Nat.ble kvs.length big) (Op.b (iN kvs key) none λ _=>some (cr st r (.dict kd (wC kvs key) (Nat.succ ep)))) none) none
noncomputable def yl (a b:EF):SF:=λ D σ=>(a D σ).b .no λ x σ1=>(b D σ1).b .no λ y σ2=>Op.b (dDel x y σ2.st) .no λ st'=>.nx ⟨st',σ2.fr⟩
section
variable{G:Gd}{N:Nm}
theorem wE {C:Cx}{ρ:List Addr}{σ:AS}{s:Shared}{o key:AV}{st':List AO}{x y:Value}(S:SR G C ρ σ s.heap)(e:dDel o key σ.st=some st')(rx:VR G.KT ρ o x)(ry:VR G.KT ρ key y):va G C ρ (delItem x y) s ⟨st',σ.fr⟩:=by
 intro E Q hQ
 refine AV.r_elim e λ r zr f=>?_;clear e;subst zr
 refine jb f nzO λ kd kvs ep hst f=>ay f λ hk f=>ay f λ hz f=>Op.elim f λ old h1 e=>?_
 refine aQ rx λ a ha z1_=>?_;clear rx;subst z1_
 rw[bw]at e
 cases e
 obtain⟨knd,enc,D,k,xs,e1,hk',hd,hr,back⟩:=nq S ha hst hk ry
 have hz:=bA hz
 unfold big at hz
 have hl:=hr.length
 have hf:=hr.find D k
 rw[e1,h1]at hf
 refine aQ hf λ w hw _=>?_
 refine pM hk' hd (by rw[hw];nofun) (λ h' d' hs=>?_) (by rw[← hl,sizeLine_eq];exact je hz)
 refine hQ ρ () h' _ (ah _) ?_ rfl
 have:=back _ _ _ h' ρ d' (hr.del D (k:=k))
 rw[e1]at this
 exact S.upd ha hs this
theorem ya {a b:EF}{e f:PySem.Expr}{p pos:Pos}(ha:SE G N a e)(hb:SE G N b f):SS G N (yl a b) (.Delete [.Subscript e f p] pos):=by
 intro C hC σ h ρ s S E Q hQ
 generalize hr:yl a b C.dn σ=r at h hQ
 refine RV.elim hr (hz:=Ne.symm h) λ x σ1 h1 hr=>?_
 refine RV.elim hr (hz:=Ne.symm h) λ y σ2 h2 hr=>?_
 refine Op.elim hr (hz:=Ne.symm h) λ st' h3 hr=>?_
 subst hr
 refine wpAny_Delete (wpAny_deleteEach_cons (wpAny_delete_Subscript (ha C hC _ _ _ h1 ρ s S E _ λ ρ1 u t'1 k'1 p'1 S'1 r'1=>hb C hC _ _ _ h2 _ ⟨t'1,s.gens,s.drawn,k'1,s.os⟩ S'1 E _ λ ρ2 v t'2 k'2 p'2 S'2 r'2=>?_)))
 refine wE (s:=⟨t'2,s.gens,s.drawn,k'2,s.os⟩) S'2 h3 (r'1.mono p'2) r'2 E _ λ ρ3 a t'3 k'3 p'3 S3 r'3=>wpAny_deleteEach_nil ?_
 exact hQ ρ3 _ t'3 k'3 (p'1.trans (p'2.trans p'3)) S3 rfl
noncomputable def xR:CF:=λ D vs σ=>lC vs .no λ x l=>x.r .no λ r=>lE l .no<|xE r σ.st .no λ _=>.ok (.ref σ.st.length) ⟨σ.st++[.lit r 0],σ.fr⟩
theorem vI:SC G xR (.builtin "iter"):=by
 intro C σ σ' vs v h ρ s xs r S E Q hQ
 cases r with
 |nil=>cases h
 |cons rk rs=>
 refine AV.r_elim h λ r zr h'=>?_
 clear h
 subst zr
 cases rs with
 |cons _ _=>cases h'
 |nil=>
 refine gY h' nzV λ xs hst h=>?_
 cases h
 refine aQ rk λ a ha z1_=>?_;clear rk;subst z1_
 refine bC (S.obj ha hst) λ ob1 ho1 vs n z1_ r1=>?_;subst z1_
 refine call_function_entry (by decide+kernel) (by decide+kernel) kdk_entry_iter (kdk_args_iter _) ?_
 unfold Builtin.«iter»
 refine wpAny_bind (m:=someArgs "iter" 1 2 _) (wpAny_of_eq (a:=[Value.ref a]) (by first|rfl|kernel_rfl!) ?_)
 show wpAny _ _ (pyIter (.ref a) >>= _) _ _ _
 refine wpAny_bind (wpAny_pyIter_list ⟨_,ho1,rfl,n,rfl⟩ ?_)
 have S'2:=S.push (ob:=jG a 0) (o:=.lit _ 0) rfl ⟨a,cx (ai _ _) ha,rfl⟩
 exact wpAny_pure ⟨_,rfl,hQ _ _ _ _ (ai _ _) S'2 ⟨_,by rw[← S.rep.len];simp,rfl⟩⟩
noncomputable def cNxt (a:EF):EF:=λ D σ=>(a D σ).b .no λ x σ1=>x.r .no λ q=>Op.b (cy σ1.st q) .no λ o=>Op.b o.gK .no λ _=>.ok (.ref σ1.st.length) ⟨σ1.st++[.nxt q],σ1.fr⟩
theorem yh {a:EF}{e:PySem.Expr}{pos:Pos}(ha:SE G N a e)(hb:∀env,attributeBase e (Str.ofString "__next__") env (eval e env)=eval e env):SE G N (cNxt a) (.Attribute e (Str.ofString "__next__") pos):=by
 intro C hC σ σ' v h ρ s S E Q hQ
 refine RV.elim h λ x σ1 h1 h=>?_
 refine AV.r_elim h λ q zq h'=>?_
 clear h
 subst zq
 refine Op.elim h' λ o h3 h=>Op.elim h λ z g h=>?_
 have hst:=d8 h3 (AO.gK_ok g)
 cases h
 refine Attribute_any_ (ha C hC _ _ _ h1 ρ s S E _ λ ρ1 u t'1 k'1 p'1 S'1 r'1=>?_) (by rw[arm_eval_Attribute,hb])
 refine aQ r'1 λ it hit z1_=>?_;clear r'1;subst z1_
 refine uG (S'1.obj hit hst) λ ob1 ho1 l hl z1_=>?_;subst z1_
 refine ui (s:=⟨t'1,s.gens,s.drawn,k'1,s.os⟩) ho1 λ tk=>?_
 have S'2:=S'1.push (ob:=nX it) (o:=.nxt q) rfl ⟨it,cx (ai _ _) hit,rfl,rfl⟩
 exact hQ _ _ _ _ (p'1.trans (ai _ _)) S'2 ⟨_,by rw[← S'1.rep.len];simp,rfl⟩
end
section
variable{M:Model}{A:Around}{E:Value->Shared->Prop}{s:Shared}
theorem pq {base:Heap}{env:Env}{outer:List Env}{L e:Addr}{oe:Obj}{vs:Array Value}{a0:Value}{Q:Unit->Shared->Prop}
  (hfr:A.frames=some (env::outer)) (hl:s.heap.FunFrames base (env::outer)) (hf:env.frame=some L)
  (he:s.heap.get? e=some oe) (hkb:base.StaysIn s.heap) (hen:base.get? e=none) (hd:oe.data= .fields vs) (h1:vs[1]? =some .none) (h0:vs[0]? =some a0)
  (h:∀h',Heap.HeldW base (env::outer) e oe.cls a0 L h'->s.heap.UpToSlots h'->Q () {s with heap:=h'}):wpAny M A (noteFrame (.ref e) env) Q E s:=by
 unfold noteFrame
 simp only[hf]
 refine wpAny_bind (wpAny_field he hd h1 ?_)
 rw[if_neg (by decide)]
 refine wpAny_entryW hfr hl hf he hkb hen hd (Array.getElem?_eq_some_iff.mp h1).1 h0 λ h' hN=>?_
 refine uM hN λ k1 k2 k3 k4=>?_
 exact h h' ⟨k1,hen,k2,k3⟩ k4
end
section
variable{G:Gd}{N:Nm}
theorem kJ {C:Cx}{ρ:List Addr}{σ:AS}{h:Heap}(S:SR G C ρ σ h){l:List Env}(hl:∀e∈l,FrOk C.B C.env.locals e)(as:List Addr)(has:∀e∈l,∀a,e.frame=some a->a∈as){h':Heap}(hk:∀b o,h.get? b=some o->h'.get? b=some o):h'.FunFrames (hideAll h as) l:=by
 induction l with
 |nil=>trivial
 |cons e l ih=>
  refine gc (hl e (.head _)) λ k a ha q=>?_
  refine⟨k,⟨a,?_⟩,ih (λ e he=>hl e (.tail _ he)) λ e he=>has e (.tail _ he)⟩
  have hn:(hideAll h as).get? a=none:=hideAll_none as (has e (.head _) a ha)
  rcases q with rfl|⟨d,hd,hv⟩
  ·refine aQ S.fr λ m hns _=>?_
   refine eX hns λ o es ep ho hdat _=>?_
   exact⟨o,ha,hn,hk _ _ ho,λ vs z=>by rw[hdat]at z;cases z⟩
  ·refine aQ (S.rep.kept a _ hd) λ o ho hdat=>?_
   exact⟨o,ha,hn,hk _ _ ho,λ vs z=>hv vs (by rw[← hdat];exact z)⟩
theorem SR.caught {C:Cx}{ρ:List Addr}{σ:AS}{h h':Heap}(S:SR G C ρ σ h){l:List Env}(hl:∀e∈l,FrOk C.B C.env.locals e)(st:(hideAll h (l.filterMap (·.frame))).StaysIn h')(up:h.UpToSlots h'):SR G C ρ σ h':=by
 have key:∀b,jz C b->b∉l.filterMap (·.frame):=by
  intro b hb hm
  refine aQ (List.mem_filterMap.mp hm) λ e he ha=>?_
  refine gc (hl e he) λ k a ha' q=>?_
  have:a=b:=aj (ha'.symm.trans ha)
  subst this
  rcases q with rfl|⟨d,hd,_⟩
  ·exact hb.1 rfl
  ·exact hb.2 d hd
 refine S.extF (λ b o hb e=>st b o (hideAll_get _ e (key b hb))) λ b o hb e=>?_
 by_cases z:∀vs,o.data≠.fields vs
 ·refine eE (up b o e z) λ sl hs=>?_
  exact⟨_,hs,rfl⟩
 ·by_cases hm:b∈l.filterMap (·.frame)
  ·exfalso
   refine z λ vs hv=>hb ?_
   refine aQ (List.mem_filterMap.mp hm) λ en he ha=>?_
   refine gc (hl en he) λ k a ha' q=>?_
   have:a=b:=aj (ha'.symm.trans ha)
   subst this
   rcases q with rfl|⟨d,hd,hnv⟩
   ·refine aQ S.fr λ m hns _=>?_
    refine eX hns λ o' es ep ho hdat _=>?_
    rw[e]at ho
    cases ho
    rw[hv]at hdat
    cases hdat
   ·refine aQ (S.rep.kept a _ hd) λ o' ho hdat=>?_
    rw[e]at ho
    cases ho
    exact absurd (hdat.symm.trans hv) (hnv vs)
  ·exact⟨o,st b o (hideAll_get _ e hm),rfl⟩
theorem CxOk.marked {C:Cx}(k:CxOk G C)(v:Option Value):CxOk G {C with A:=C.A.mark v,hn:=false}:={k with hh:=nofun}
noncomputable def tm (i:Nat)(a:EF)(hb:SF):SF:=λ D σ=>bb D.hn ((a D σ).b .no λ x σ1=>x.r .no λ p=>Op.b (cy σ1.st p) .no λ o=>Op.b o.gN .no λ q=>Op.b (cy σ1.st q) .no λ o=>Op.b o.gK .no λ z=>xE z.1 σ1.st .no λ xs=>
 Option.rec (motive:=λ _=>RF) (hb ⟨D.cs,D.d,false,D.kt⟩ ⟨cr σ1.st q .any,σ1.fr⟩) (λ v=>(gV i D v ⟨cr σ1.st q (.lit z.1 (Nat.succ z.2)),σ1.fr⟩).b .no λ σ2=>.br σ2) (cy xs z.2)) .no
theorem sR:isSubtype (.type "StopIteration") (.type "BaseException")=pure true:=by rw[isSubtype_type];kernel_rfl
theorem rC:isSubtype (.type ((Manifest.find? "StopIteration").elim "type" λ y=>y.metatype)) (.type "tuple")=pure false:=by
 rw[isSubtype_type];kernel_rfl
theorem vt {i:Nat}{x:Str}{a:EF}{hb:SF}{f:PySem.Expr}{b'0:Stmt}{suite:List Stmt}{np cp ap bp tp hp pos:Pos}(hN:N.fn=true)(hx:N.vn[i]? =some x)(hst:xS G N (Str.ofString "StopIteration") (.type "StopIteration"))(ha:SE G N a f)(hh:fw G N hb (b'0::suite))
  (hev:∀env,eval (.Call f [] [] cp) env=(do callWith cp (← eval f env) [] [] []))
  (hs:tP [.Name x np] (.Call f [] [] cp)):
  SS G N (tm i a hb) (.Try [.Assign [.Name x np] (.Call f [] [] cp) ap,.Break bp] [.ExceptHandler (some (.Name (Str.ofString "StopIteration") tp)) none (b'0::suite) hp] [] [] pos):=by
 intro C hC σ h ρ s S E Q hQ
 generalize hr:tm i a hb C.dn σ=r at h hQ
 refine ay hr (hz:=Ne.symm h) λ hn hr=>?_
 refine RV.elim hr (hz:=Ne.symm h) λ v σ1 h1 hr=>?_
 have hhd:=S.ok.hh hn
 refine AV.r_elim hr (hz:=Ne.symm h) λ p zp hr'=>?_
 clear hr
 subst zp
 refine Op.elim hr' (hz:=Ne.symm h) λ o1 hp1 hr=>Op.elim hr (hz:=Ne.symm h) λ q g1 hr=>Op.elim hr (hz:=Ne.symm h) λ o2 hp2 hr=>Op.elim hr (hz:=Ne.symm h) λ rk g2 hr=>?_
 obtain⟨rr,k⟩:=rk
 refine gY hr (Ne.symm h) λ xs hp3 hr=>?_
 have hp1:=d8 hp1 (AO.gN_ok g1)
 have hp2:=d8 hp2 (AO.gK_ok g2)
 simp only[aS,bw]at hr
 refine wpAny_Try_except ?_
 refine wpAny_execs_cons ?_
 refine wpAny_Assign_stores ?_ (hs C.env _).1 (hs C.env 0).2
 rw[hev]
 refine wpAny_bind (ha C hC _ _ _ h1 ρ s S _ _ λ ρ1 u t'1 k'1 p'1 S'1 r'1=>?_)
 refine aQ r'1 λ au hau z1_=>?_;clear r'1;subst z1_
 refine uF (S'1.obj hau hp1) λ on hon it hit hcn hdn=>?_
 refine uG (S'1.obj hit hp2) λ oi hoi al hal z1_=>?_;subst z1_
 refine bC (S'1.obj hal hp3) λ ol hol vs n z1_ rv=>?_;subst z1_
 refine oC (s:=⟨t'1,s.gens,s.drawn,k'1,s.os⟩) hon hcn hdn ?_
 refine wpAny_call (wH (s:=⟨t'1,s.gens,s.drawn,k'1,s.os⟩) hon hcn hdn (codeAny_builtin entry_listiter_next ?_))
 rcases hz:xs[k]? with _|v
 ·-- no item:the exception
  rw[hz]at hr
  have hx0:vs[k]? =none:=by
   have:=aK.mp hz
   rw[rv.length]at this
   exact Array.getElem?_eq_none_iff.mpr (by simpa using this)
  refine n7 (s:=⟨t'1,s.gens,s.drawn,k'1,s.os⟩) hhd hoi ⟨_,hol,rfl,n,rfl⟩ hx0 λ t'2 hs2 hov=>?_
  replace hs2:Heap.SameBut it t'1 t'2:=hs2
  have hitl:it<t'2.objs.size:=by rw[hs2.1];exact Heap.lt_size hoi
  have hkk:∀b o,t'2.get? b=some o->((t'2.push {cls:=.type "tuple",data:=.seq #[]}).push (lM t'2.objs.size)).get? b=some o:=λ b o e=>av _ (av _ e)
  have S'2:SR G C ρ1 ⟨σ1.st.set q .any,σ1.fr⟩ t'2:=by
   refine eE hov λ o ho=>?_
   exact S'1.upd hit hs2 ⟨o,ho,trivial⟩
  show wpAny (model G.prog G.w) C.A (noteFrame (.ref (t'2.objs.size+1)) C.env) (λ _ s'2=>wpAny (model G.prog G.w) C.A (setFlight (.ref (t'2.objs.size+1)) none) (λ _ s'3=>wpAny (model G.prog G.w) C.A (handleBy (.ref (t'2.objs.size+1)) C.env [ExceptHandler.ExceptHandler (some (.Name (Str.ofString "StopIteration") tp)) none (b'0::suite) hp]) Q E s'3) E s'2) E ⟨(t'2.push {cls:=.type "tuple",data:=.seq #[]}).push (lM t'2.objs.size),s.gens,s.drawn,k'1,s.os⟩
  refine eE (hC.2.2 hN) λ outer hfr=>?_
  refine aQ S'2.ok.fl λ l hl1 hl2=>?_
  have:l=C.env::outer:=aj (hl1.symm.trans hfr)
  subst this
  refine gc (hl2 C.env (.head _)) λ _ L hL _=>?_
  have hff:=kJ S'2 hl2 ((C.env::outer).filterMap (·.frame)) (λ e he a ha=>List.mem_filterMap.mpr ⟨e,he,ha⟩) hkk
  have hsz:t'2.objs.size+1=(t'2.push {cls:=.type "tuple",data:=.seq #[]}).objs.size:=(Heap.size_push ..).symm
  have hee:((t'2.push {cls:=.type "tuple",data:=.seq #[]}).push (lM t'2.objs.size)).get? (t'2.objs.size+1)=some (lM t'2.objs.size):=by
   rw[hsz]
   exact aY _ rfl
  refine pq (oe:=lM t'2.objs.size) hfr hff hL hee (λ b o e=>hkk b o (of_hideAll _ e)) ?_ rfl rfl rfl λ h'3 hH u3=>?_
  ·cases hq:(hideAll t'2 ((C.env::outer).filterMap (·.frame))).get? (t'2.objs.size+1)with
   |none=>rfl
   |some o=>exact absurd (Heap.lt_size (of_hideAll _ hq)) (Nat.not_lt.mpr (Nat.le_succ _))
  refine wpAny_landsW hH λ h'4 hF u4=>?_
  refine uM hF λ f1 f2 f3 f4=>?_
  have S4:SR G C ρ1 ⟨σ1.st.set q .any,σ1.fr⟩ h'4:=S'2.caught hl2 f1 (((Heap.UpToSlots.of_keeps hkk).trans u3).trans u4)
  refine wpAny_handleBy_builtin (X:="StopIteration") (T:="StopIteration") (b:=true) sR rC isSubtype_stop ?_
  let C':Cx:={C with A:=C.A.mark (some (.ref (t'2.objs.size+1))),hn:=false}
  have hC':C'.is N:=⟨hC.1,hC.2.1,λ z=>hC.2.2 z⟩
  have to:∀{ρ σ h},SR G C ρ σ h->SR G C' ρ σ h:=λ S=>⟨S.rep,S.fr,S.Lρ,S.cells,S.ok.marked _⟩
  have from':∀{ρ σ h},SR G C' ρ σ h->SR G C ρ σ h:=λ S'=>⟨S'.rep,S'.fr,S'.Lρ,S'.cells,S.ok⟩
  refine hst C' hC' ρ1 ⟨h'4,s.gens,s.drawn,k'1,s.os⟩ _ _ _ _ (to S4) ⟨rfl,?_,?_⟩
  ·refine aQ f4.at.there λ oe hoe hce=>?_
   exact⟨oe,hoe,hce⟩
  rw[if_pos rfl]
  refine wpAny_setFlight_noneW f1 f3 f4.at λ h'5 g1 g2 g3 g4=>?_
  have S5:SR G C ρ1 ⟨σ1.st.set q .any,σ1.fr⟩ h'5:=S'2.caught hl2 g1 ((((Heap.UpToSlots.of_keeps hkk).trans u3).trans u4).trans λ b o hb hn=>⟨o.slots,g4 b o hb hn⟩)
  have hr':hb C'.dn ⟨σ1.st.set q .any,σ1.fr⟩=r:=hr
  refine hh C' hC' _ ?_ ρ1 ⟨h'5,s.gens,s.drawn,k'1,s.os⟩ (to S5) _ _ λ ρ' a h' tk' p S' rf=>?_
  ·rw[hr'];exact h
  ·rw[hr']at S' rf
   exact hQ ρ' a h' tk' (p'1.trans p) (from' S') rf
 ·-- an item
  rw[hz]at hr
  refine RU.elim hr (hz:=Ne.symm h) λ σ2 h2 hr=>?_
  subst hr
  refine aQ (rv.get hz) λ y hy ry=>?_
  refine mT (s:=⟨t'1,s.gens,s.drawn,k'1,s.os⟩) hoi ⟨_,hol,rfl,n,rfl⟩ (x:=y) (by simpa using hy) λ h' hi he=>?_
  have S'2:SR G C ρ1 ⟨σ1.st.set q (.lit rr (Nat.succ k)),σ1.fr⟩ h':=S'1.upd hit he ⟨_,hi,al,hal,rfl⟩
  refine aV (λ _ _=>rfl) (aW hx) C hC _ _ _ h2 ρ1 ⟨h',s.gens,s.drawn,k'1,s.os⟩ y ry S'2 _ _ λ ρ2 _ t'2 k'2 p'2 S3 _=>?_
  exact wpAny_execs_cons (wpAny_Break (hQ ρ2 _ t'2 k'2 (p'1.trans p'2) S3 rfl))
end
noncomputable def oB (op:Operator)(m n:Int)(z:RV)(k:Int->RV):RV:=Op.b (fL op m n) z k
section
variable{G:Gd}{N:Nm}
theorem bQ {p:Pos}{x:Str}{i:Int}(hx:x∈N.gs)(hy:∃t,nsIn G.K mainGlobals x=some (some (.int i t))):SE G N (cC (.int i)) (.Name x p):=by
 refine eE hy λ t hy=>?_
 exact qk hx hy ⟨_,rfl⟩
theorem bj {op:CmpOp}{a b:EF}{ea eb:PySem.Expr}{p:Pos}{f:TF}(hm:behindInMarks op eb=false)(ha:SE G N a ea)(hb:SE G N b eb)(hf:mi G op f a b):ST G N f (.Compare ea [op] [eb] p):=(sU hm ha hb hf).1
theorem mC {op:CmpOp}{a b:EF}{ea eb:PySem.Expr}{p:Pos}{f:TF}(hm:behindInMarks op eb=false)(ha:SE G N a ea)(hb:SE G N b eb)(hf:mi G op f a b):SE G N (cT f) (.Compare ea [op] [eb] p):=(sU hm ha hb hf).2
theorem hf_b (op:Operator):∀(m n:Int) (k:Int->RV) (v:AV) (σ:AS),oB op m n .no k= .ok v σ->∃c,fL op m n=some c/\k c= .ok v σ:=λ m n k v σ h=>by
 refine Op.elim h λ c h1 h=>?_
 exact⟨c,h1,h⟩
noncomputable def jR (a b:EF):EF:=λ D σ=>(a D σ).b .no λ x σ1=>(b D σ1).b .no λ y σ2=>Op.b (wG x y σ2.st) .no λ vs=>.ok (.ref σ2.st.length) ⟨σ2.st++[.list vs],σ2.fr⟩
theorem kg {a b:EF}{ea eb:PySem.Expr}{p:Pos}(ha:SE G N a ea)(hb:SE G N b eb):SE G N (jR a b) (.BinOp ea .Add eb p):=by
 intro C hC σ σ' v h ρ s S
 refine RV.elim h λ x σ1 h1 h=>?_
 refine RV.elim h λ y σ2 h2 h=>?_
 refine Op.elim h λ vs h3 h=>?_
 cases h
 intro E Q hQ
 refine wpAny_BinOp (xx ha hb hC h1 h2 S λ ρ' u v h' tk' p' S' ru rv=>?_)
 exact zf (s:=⟨h',s.gens,s.drawn,tk',s.os⟩) S' h3 ru rv E Q λ ρ'' a h'' tk'' p'' S'' r''=>hQ ρ'' a h'' tk'' (p'.trans p'') S'' r''
noncomputable def AV.ki {β:Type}(v:AV)(n:β)(f:Nat->β)(g:Int->β):β:=AV.rec (motive:=λ _=>β) n (λ _=>n) g (λ _=>n) (λ _=>n) f v
theorem AV.ki_inv {β:Type}{v:AV}{n z:β}{f:Nat->β}{g:Int->β}(h:v.ki n f g=z)(hz:n≠z):(∃i,v= .kt i/\f i=z)∨∃i,v= .int i/\g i=z:=by
 cases v<;>first|exact .inl ⟨_,rfl,h⟩|exact .inr ⟨_,rfl,h⟩|exact absurd h hz
end
structure Tb where
 md:Nat->Int->Option Int
 bt:Nat->Int->Option Int
 sl:Nat->AV->AV->Option (List AV)
 ln:Nat->Option AV
 cl:Nat->Nat->Option Nat
 gt:Nat->Int->Option Bool
structure lH (G:Gd) (t:Tb):Prop where
 md:∀i n c,t.md i n=some c->G.KT.tab i=none/\∃m,G.KT.num i=some m/\n≠0/\Int.fmod m n=c
 bt:∀i j c,t.bt i j=some c->G.KT.tab i=none/\∃m,G.KT.num i=some m/\0<=j/\Builtin.bitAnd (m.fdiv (2 ^ j.toNat)) 1=c
 sl:∀i y z xs,t.sl i y z=some xs->G.KT.tab i=none/\G.KT.num i=none/\∃la vs lo hi,G.KT.obj i=some la/\G.h0.IsList la vs/\vs.size<=16777216/\gU y=some lo/\gU z=some hi/\VRs G.KT [] xs (d7 vs.toList lo hi)
 ln:∀i v,t.ln i=some v->G.KT.tab i=none/\G.KT.num i=none/\∃la vs,G.KT.obj i=some la/\G.h0.IsList la vs/\vs.size<=16777216/\flat v=true/\∀tk,VR G.KT [] v (.int (vs.size:Nat) tk)
 cl:∀i n k,t.cl i n=some k->G.KT.tab i=none/\∃m,G.KT.num i=some m/\clipAt n m=k
 gt:∀i n b,t.gt i n=some b->G.KT.tab i=none/\∃m,G.KT.num i=some m/\decide (n<m)=b
section
variable{G:Gd}{N:Nm}{tb:Tb}
noncomputable def hO (tb:Tb)(a b:EF):EF:=λ D σ=>(a D σ).b .no λ x σ1=>(b D σ1).b .no λ y σ2=>y.i .no λ n=>x.ki .no (λ i=>Op.b (tb.md i n) .no λ c=>.ok (.int c) σ2) λ m=>Op.b (fL .Mod m n) .no λ c=>fI c λ c=>.ok (.int c) σ2
theorem qj {a b:EF}{ea eb:PySem.Expr}{p:Pos}(ht:lH G tb)(ha:SE G N a ea)(hb:SE G N b eb):SE G N (hO tb a b) (.BinOp ea .Mod eb p):=by
 intro C hC σ σ' v h ρ s S
 refine RV.elim h λ x σ1 h1 h=>?_
 refine RV.elim h λ y σ2 h2 h=>?_
 refine AV.i_elim h λ n hn h=>?_
 subst hn
 intro E Q hQ
 refine wpAny_BinOp (xx ha hb hC h1 h2 S λ ρ' u v h' tk' p' S' ru rv=>?_)
 rcases AV.ki_inv h (by nofun)with⟨i,rfl,h⟩|⟨m,rfl,h⟩
 ·refine Op.elim h λ c h3 h=>?_
  cases h
  refine uI (ht.md _ _ _ h3) λ t0 m hm hn0 hc=>?_
  refine eE (VR.kt_num t0 hm ru) λ t z1_=>?_;subst z1_
  refine eE rv λ t' z1_=>?_;clear rv;subst z1_
  exact mod_int' hn0 (hQ ρ' _ h' _ p' S' ⟨_,by rw[hc]⟩)
 ·refine Op.elim h λ c h3 h=>?_
  rw[ek]at h
  cases h
  exact j3 (s:=⟨h',s.gens,s.drawn,tk',s.os⟩) S' h3 ru rv E Q λ ρ'' a h'' tk'' p'' S'' r''=>hQ ρ'' a h'' tk'' (p'.trans p'') S'' r''
noncomputable def jJ (tb:Tb)(a b:EF):EF:=λ D σ=>(a D σ).b .no λ x σ1=>(b D σ1).b .no λ y σ2=>y.i .no λ n=>x.ki .no (λ i=>Op.b (tb.bt i n) .no λ c=>.ok (.int c) σ2) λ m=>Op.b (fL .RShift m n) .no λ q=>Op.b (fL .BitAnd q 1) .no λ c=>fI c λ c=>.ok (.int c) σ2
theorem vG {a b:EF}{ea eb:PySem.Expr}{p q r:Pos}{k:Nat}(ht:lH G tb)(ha:SE G N a ea)(hb:SE G N b eb):SE G N (jJ tb a b) (.BinOp (.BinOp ea .RShift eb p) .BitAnd (.Constant (.int 1) k r) q):=by
 intro C hC σ σ' v h ρ s S
 refine RV.elim h λ x σ1 h1 h=>?_
 refine RV.elim h λ y σ2 h2 h=>?_
 refine AV.i_elim h λ n hn h=>?_
 subst hn
 intro E Q hQ
 refine wpAny_BinOp (wpAny_BinOp (xx ha hb hC h1 h2 S λ ρ' u v h' tk' p' S' ru rv=>?_))
 have one:∀(s'1:Shared) (Q:Value->Shared->Prop),(∀t tk,Q (.int 1 t) {s'1 with toks:=tk})->wpAny (model G.prog G.w) C.A (eval (.Constant (.int 1) k r) C.env) Q E s'1:=λ s'1 Q h=>wpAny_Constant_int (h _ _)
 rcases AV.ki_inv h (by nofun)with⟨i,rfl,h⟩|⟨m,rfl,h⟩
 ·refine Op.elim h λ c h3 h=>?_
  cases h
  refine uI (ht.bt _ _ _ h3) λ t0 m hm hn0 hc=>?_
  refine eE (VR.kt_num t0 hm ru) λ t z1_=>?_;subst z1_
  refine eE rv λ t' z1_=>?_;clear rv;subst z1_
  refine rshift_int hn0 (one _ _ λ t1 k1=>?_)
  exact and_int (hQ ρ' _ h' _ p' S' ⟨_,by rw[hc]⟩)
 ·refine Op.elim h λ q h3 h=>?_
  refine Op.elim h λ c h4 h=>?_
  rw[ek]at h
  cases h
  refine j3 (s:=⟨h',s.gens,s.drawn,tk',s.os⟩) S' h3 ru rv E _ λ ρ2 a'2 h'2 tk2 p'2 S'2 r'2=>one _ _ λ t1 k1=>?_
  exact j3 (s:=⟨h'2,s.gens,s.drawn,k1,s.os⟩) S'2 h4 r'2 ⟨t1,rfl⟩ E Q λ ρ'' a h'' tk'' p'' S'' r''=>hQ ρ'' a h'' tk'' (p'.trans (p'2.trans p'')) S'' r''
noncomputable def k_ (tb:Tb)(a l u:EF):EF:=λ D σ=>(a D σ).b .no λ x σ1=>(l D σ1).b .no λ y σ2=>(u D σ2).b .no λ z σ3=>x.ki .no (λ i=>Op.b (tb.sl i y z) .no λ xs=>.ok (.ref σ3.st.length) ⟨σ3.st++[.list xs],σ3.fr⟩) λ _=>.no
theorem qi {a l u:EF}{e:PySem.Expr}{lo up:Option PySem.Expr}{q p:Pos}(ht:lH G tb)(ha:SE G N a e)(hl:SP G N l lo)(hu:SP G N u up):SE G N (k_ tb a l u) (.Subscript e (.Slice lo up none q) p):=by
 intro C hC σ σ' v h ρ s S
 refine RV.elim h λ x σ1 h1 h=>?_
 refine RV.elim h λ y σ2 h2 h=>?_
 refine RV.elim h λ z σ3 h3 h=>?_
 rcases AV.ki_inv h (by nofun)with⟨i,rfl,h⟩|⟨m,rfl,h⟩
 ·refine Op.elim h λ xs h4 h'2=>?_
  cases h'2
  refine nk (ht.sl _ _ _ _ h4) λ t0 t1 la vs plo phi hla hob hz hplo hphi rr=>?_
  intro E Q hQ
  refine iR (ha C hC _ _ _ h1 ρ s S E _ λ ρ1 u t'1 k'1 p'1 S'1 r'1=>wpAny_Slice ?_)
  refine hl C hC _ _ _ h2 _ ⟨t'1,s.gens,s.drawn,k'1,s.os⟩ S'1 E _ λ ρ2 v t'2 k'2 p'2 S'2 r'2=>?_
  refine hu C hC _ _ _ h3 _ ⟨t'2,s.gens,s.drawn,k'2,s.os⟩ S'2 E _ λ ρ3 w t'3 k'3 p'3 S3 r'3=>wpAny_evalPart_none ?_
  cases VR.kt_obj t0 t1 hla r'1
  refine gc (jW hplo r'2) λ il ql z1_ eql=>?_;subst z1_
  refine gc (jW hphi r'3) λ ih qh z1_ eqh=>?_;subst z1_
  refine ja hob λ ol ho0 hcl nn hda=>?_
  have ho:t'3.get? la=some ol:=S3.ok.b0 _ S3.rep.kept _ _ ho0
  have S':SR G C ρ3 _ (t'3.push {cls:=.type "slice",data:=.fields #[partValue ql,partValue qh,.none]}):=S3.ext λ b o e=>av _ e
  refine⟨"list",_,⟨_,av _ ho,hcl⟩,list_getitem_lookup,?_⟩
  have hL:(t'3.push {cls:=.type "slice",data:=.fields #[partValue ql,partValue qh,.none]}).IsList la vs:=⟨_,av _ ho,hcl,nn,hda⟩
  refine wpAny_getItem_list_slice hL (Heap.IsSliceOf.new ..) il ih .none (by simp) ?_ (by rw[sizeLine_eq];exact je hz)
  have S2:=S'.push (ob:={cls:=.type "list",data:=.seq (slicePick vs plo phi none)}) (o:=.list xs) rfl ⟨_,_,rfl,by
   rw[j_];exact rr.mono (List.nil_prefix ..)⟩
  refine hQ _ _ _ _ (p'1.trans (p'2.trans (p'3.trans (ai _ _)))) S2 ⟨_,?_,rfl⟩
  rw[← S3.rep.len];simp
 ·cases h
noncomputable def jK (tb:Tb):CF:=λ D vs σ=>match vs with
 |[x]=>x.ki .no (λ i=>Op.b (tb.ln i) .no λ v=>.ok v σ) λ _=>.no
 |_=>.no
theorem qo (ht:lH G tb):SC G (jK tb) (.builtin "len"):=by
 intro C σ σ' vs v h ρ s xs r S E Q hQ
 unfold jK at h
 split at h
 ·rename_i x
  rcases AV.ki_inv h (by nofun)with⟨i,rfl,h⟩|⟨m,rfl,h⟩
  ·refine Op.elim h λ w h4 h=>?_
   cases h
   refine rZ (ht.ln _ _ h4) λ t0 t1 la ws hla hob hz hf rr=>?_
   cases r with
   |cons r1 r2=>
   cases r2
   cases VR.kt_obj t0 t1 hla r1
   refine ja hob λ ol ho0 hcl nn hda=>?_
   refine call_len_list (items:=ws) ⟨ol,S.ok.b0 _ S.rep.kept _ _ ho0,hcl,nn,hda⟩ (by exact xW hz) ?_
   exact hQ ρ _ s.heap _ (ah _) S ((rr _).flat hf)
  ·cases h
 ·cases h
noncomputable def k9 (tb:Tb)(a l:EF):EF:=λ D σ=>(a D σ).b .no λ x σ1=>(l D σ1).b .no λ y σ2=>y.ki .no (λ i=>x.r .no λ r=>Op.b (cy σ2.st r) .no λ o=>o.l .no λ xs=>bb (Nat.ble xs.length big) (Op.b (tb.cl i xs.length) .no λ k=>.ok (.ref σ2.st.length) ⟨σ2.st++[.list (xs.drop k)],σ2.fr⟩) .no)
 λ m=>Op.b (my x (.int m) .none σ2.st) .no λ p=>.ok p.1 ⟨p.2,σ2.fr⟩
theorem vD {a l:EF}{e lo:PySem.Expr}{q p:Pos}(ht:lH G tb)(ha:SE G N a e)(hl:SE G N l lo):SE G N (k9 tb a l) (.Subscript e (.Slice (some lo) none none q) p):=by
 intro C hC σ σ' v h ρ s S
 refine RV.elim h λ x σ1 h1 h=>?_
 refine RV.elim h λ y σ2 h2 h=>?_
 rcases AV.ki_inv h (by nofun)with⟨i,rfl,h⟩|⟨m,rfl,h⟩
 ·refine AV.r_elim h λ r e_1 h=>?_;subst e_1
  refine Op.elim h λ o h3 h=>?_
  obtain⟨xs,rfl,h⟩:=AO.l_inv h (by nofun)
  refine ay h λ hb h=>?_
  refine Op.elim h λ k h4 h=>?_
  cases h
  rw[aS]at h3
  refine gc (ht.cl _ _ _ h4) λ t0 m hm hk=>?_
  intro E Q hQ
  refine iR (ha C hC _ _ _ h1 ρ s S E _ λ ρ1 u t'1 k'1 p'1 S'1 r'1=>wpAny_Slice ?_)
  refine wpAny_evalPart_some (hl C hC _ _ _ h2 _ ⟨t'1,s.gens,s.drawn,k'1,s.os⟩ S'1 E _ λ ρ2 v t'2 k'2 p'2 S'2 r'2=>?_)
  refine wpAny_evalPart_none (wpAny_evalPart_none ?_)
  refine eE (VR.kt_num t0 hm r'2) λ t z1_=>?_;subst z1_
  refine aQ (r'1.mono p'2) λ la hla z1_=>?_;subst z1_
  refine bC (S'2.obj hla h3) λ ob ho vs nn z1_ rr=>?_;subst z1_
  have hlen:vs.size=xs.length:=by rw[rr.length];simp
  have hz:=bA hb
  unfold big at hz
  have S':SR G C ρ2 _ (t'2.push {cls:=.type "slice",data:=.fields #[.int m t,.none,.none]}):=S'2.ext λ b o e=>av _ e
  refine⟨"list",_,⟨_,av _ ho,rfl⟩,list_getitem_lookup,?_⟩
  have hL:(t'2.push {cls:=.type "slice",data:=.fields #[.int m t,.none,.none]}).IsList la vs:=⟨_,av _ ho,rfl,nn,rfl⟩
  refine wpAny_getItem_list_slice hL (Heap.IsSliceOf.new ..) (.int m t) .none .none (by simp) ?_ (by rw[hlen,sizeLine_eq];exact je hz)
  have S2:=S'.push (ob:={cls:=.type "list",data:=.seq (slicePick vs (some m) none none)}) (o:=.list (xs.drop k)) rfl ⟨_,_,rfl,by
   rw[j_,dD]
   have e:clipAt vs.toList.length m=k:=by rw[Array.length_toList,hlen];exact hk
   simp only[Option.elim,e]
   rw[List.take_of_length_le (by simp)]
   exact(rr.drop k).mono (ai _ _)⟩
  refine hQ _ _ _ _ (p'1.trans (p'2.trans (ai _ _))) S2 ⟨_,?_,rfl⟩
  rw[← S'2.rep.len];simp
 ·refine Op.elim h λ w h4 h=>?_
  refine eu (l:=l) (u:=cC .none) ha (cL hl) dl C hC σ σ' v ?_ ρ s S
  show((a C.dn σ).b RV.no λ x σ1=>(l C.dn σ1).b RV.no λ y σ2=>(cC .none C.dn σ2).b RV.no λ z σ3=>Op.b (my x y z σ3.st) RV.no λ p=>RV.ok p.1 ⟨p.2,σ3.fr⟩)= .ok v σ'
  rw[h1]
  show((l C.dn σ1).b RV.no λ y σ2=>(cC .none C.dn σ2).b RV.no λ z σ3=>Op.b (my x y z σ3.st) RV.no λ p=>RV.ok p.1 ⟨p.2,σ3.fr⟩)= .ok v σ'
  rw[h2]
  show Op.b (my x (.int m) .none σ2.st) RV.no (λ p=>RV.ok p.1 ⟨p.2,σ2.fr⟩)= .ok v σ'
  rw[h4]
  exact h
noncomputable def uV (tb:Tb)(a b:EF):TF:=λ D σ=>(a D σ).b .no λ x σ1=>(b D σ1).b .no λ y σ2=>y.i .no λ n=>x.ki .no (λ i=>Op.b (tb.gt i n) .no λ c=>.ok c σ2) λ m=>.ok (decide (n<m)) σ2
theorem yN {a b:EF}(ht:lH G tb):mi G .Gt (uV tb a b) a b:=by
 intro D σ c σ' h
 refine RV.elim h λ x σ1 h1 h=>?_
 refine RV.elim h λ y σ2 h2 h=>?_
 refine AV.i_elim h λ n e_1 h=>?_;subst e_1
 rcases AV.ki_inv h (by nofun)with⟨i,rfl,h⟩|⟨m,rfl,h⟩
 ·refine Op.elim h λ d h3 h=>?_
  cases h
  refine gc (ht.gt _ _ _ h3) λ t0 m hm hc=>?_
  refine⟨_,_,_,h1,h2,λ C ρ s u v S ru rv=>?_⟩
  refine eE (VR.kt_num t0 hm ru) λ t z1_=>?_;subst z1_
  exact j1 (a:=m) (b:=n) S (by rw[← hc];rfl) ⟨t,rfl⟩ rv
 ·cases h
  exact⟨_,_,_,h1,h2,λ C ρ s u v S ru rv=>j1 (a:=m) (b:=n) S rfl ru rv⟩
end
noncomputable def ko (f:Nat->Nat):AV->AV
 |.ref i=>.ref (f i)
 |v=>v
noncomputable def pc (f:Nat->Nat)(z:Option AV):Option AV:=z.map (ko f)
noncomputable def kq (f:Nat->Nat):AO->AO
 |.list xs=>.list (xs.map (ko f))
 |.tup xs=>.tup (xs.map (ko f))
 |.cell v=>.cell (pc f v)
 |.dict kd kvs ep=>.dict kd (kvs.map λ p=>(p.1,ko f p.2)) ep
 |.inst C j vals=>.inst C (f j) (vals.map (pc f))
 |.attrs c vals b=>.attrs c (vals.map (pc f)) b
 |.lit r k=>.lit (f r) k
 |.nxt i=>.nxt (f i)
 |.vals d=>.vals (f d)
 |.any=>.any
 |.range a b c=>.range a b c
 |.set kd xs=>.set kd xs
noncomputable def pj (n:Nat):AV->Prop
 |.ref i=>i<n
 |_=>True
noncomputable def okE (n:Nat)(z:Option AV):Prop:=∀v,z=some v->pj n v
noncomputable def okO (n:Nat):AO->Prop
 |.list xs=>∀v∈xs,pj n v
 |.tup xs=>∀v∈xs,pj n v
 |.cell v=>okE n v
 |.dict kd kvs ep=>∀p∈kvs,pj n p.2
 |.inst C j vals=>j<n/\∀z∈vals,okE n z
 |.attrs c vals b=>∀z∈vals,okE n z
 |.lit r k=>r<n
 |.nxt i=>i<n
 |.vals d=>d<n
 |_=>True
section
variable{KT:b4}{ρ τ:List Addr}{f:Nat->Nat}
theorem VR.rn (H:∀(i:Nat) (a:Addr),ρ[i]? =some a->τ[f i]? =some a){v:AV}{x:Value}(r:VR KT ρ v x):VR KT τ (ko f v) x:=by
 cases v with
 |ref i=>refine aQ r λ a e q=>?_;exact⟨a,H i a e,q⟩
 |_=>exact r
theorem VRs.rn (H:∀(i:Nat) (a:Addr),ρ[i]? =some a->τ[f i]? =some a){vs:List AV}{xs:List Value}(r:VRs KT ρ vs xs):VRs KT τ (vs.map (ko f)) xs:=by
 induction r with
 |nil=>exact .nil
 |cons a _ ih=>exact .cons (a.rn H) ih
theorem KVR.rn {K:Type}{enc:K->AV}(H:∀(i:Nat) (a:Addr),ρ[i]? =some a->τ[f i]? =some a){kvs:List (AV×AV)}{xs:List (K×Value)}(r:KVR KT ρ enc kvs xs):KVR KT τ enc (kvs.map λ p=>(p.1,ko f p.2)) xs:=by
 induction r with
 |nil=>exact .nil
 |cons a _ ih=>exact .cons (a.rn H) ih
theorem mG (vals:List (Option AV))(i:Nat):(vals.map (pc f))[i]? =(vals[i]?).map (pc f):=aB ..
theorem SlR.rn (H:∀(i:Nat) (a:Addr),ρ[i]? =some a->τ[f i]? =some a){z:Option (Option AV)}{y:Option Value}(r:SlR KT ρ z y):SlR KT τ (z.map (pc f)) y:=by
 rcases z with _|_|v
 ·trivial
 ·trivial
 ·refine aQ r λ x a b=>?_;exact⟨x,a,b.rn H⟩
theorem NsR.rn (H:∀(i:Nat) (a:Addr),ρ[i]? =some a->τ[f i]? =some a){z:Option (Option AV)}{y:Option (Option Value)}(r:NsR KT ρ z y):NsR KT τ (z.map (pc f)) y:=by
 rcases z with _|_|v
 ·exact r
 ·exact r
 ·refine aQ r λ x a b=>?_;exact⟨x,a,b.rn H⟩
theorem OR.rn (H:∀(i:Nat) (a:Addr),ρ[i]? =some a->τ[f i]? =some a){o:AO}{ob:Obj}(r:OR KT ρ o ob):OR KT τ (kq f o) ob:=by
 match o,r with
 |.any,_=>trivial
 |.list xs,r=>refine ez r λ vs n b c=>?_;exact⟨vs,n,b,c.rn H⟩
 |.tup xs,r=>refine ez r λ vs n b c=>?_;exact⟨vs,n,b,c.rn H⟩
 |.range _ _ _,r=>exact r
 |.cell none,r=>exact r
 |.cell (some v),r=>refine aQ r λ x a b=>?_;exact⟨x,a,b.rn H⟩
 |.dict true _ _,r=>refine dB r λ es xs a b c d e g=>?_;exact⟨es,xs,a,b,c,d,e,g.rn H⟩
 |.dict false _ _,r=>refine dB r λ es xs a b c d e g=>?_;exact⟨es,xs,a,b,c,d,e,g.rn H⟩
 |.set true _,r=>exact r
 |.set false _,r=>exact r
 |.inst _ _ _,r=>refine bR r λ dx sl a b c=>?_;exact⟨dx,sl,H _ _ a,b,λ i=>by rw[mG];exact(c i).rn H⟩
 |.attrs _ _ _,r=>refine bz r λ es n a b d c=>?_;exact⟨es,n,a,b,d,λ i x e=>by rw[mG];exact(c i x e).rn H⟩
 |.lit _ _,r=>refine aQ r λ a e b=>?_;exact⟨a,H _ _ e,b⟩
 |.nxt _,r=>refine aQ r λ a e b=>?_;exact⟨a,H _ _ e,b⟩
 |.vals _,r=>refine aQ r λ a e b=>?_;exact⟨a,H _ _ e,b⟩
variable{n:Nat}
theorem VR.nr (H:∀i,i<n->ρ[f i]? =τ[i]?){v:AV}(k:pj n v){x:Value}(r:VR KT ρ (ko f v) x):VR KT τ v x:=by
 cases v with
 |ref i=>refine aQ r λ a e q=>?_;exact⟨a,(H i k).symm.trans e,q⟩
 |_=>exact r
theorem VRs.nr (H:∀i,i<n->ρ[f i]? =τ[i]?){vs:List AV}(k:∀v∈vs,pj n v){xs:List Value}(r:VRs KT ρ (vs.map (ko f)) xs):VRs KT τ vs xs:=by
 induction vs generalizing xs with
 |nil=>cases r;exact .nil
 |cons v vs ih=>cases r with
  |cons a b=>exact .cons (a.nr H (k v aT)) (ih (λ w hw=>k w (ar _ hw)) b)
theorem KVR.nr {K:Type}{enc:K->AV}(H:∀i,i<n->ρ[f i]? =τ[i]?){kvs:List (AV×AV)}(k:∀p∈kvs,pj n p.2){xs:List (K×Value)}(r:KVR KT ρ enc (kvs.map λ p=>(p.1,ko f p.2)) xs):KVR KT τ enc kvs xs:=by
 induction kvs generalizing xs with
 |nil=>cases r;exact .nil
 |cons v vs ih=>
  obtain⟨v1,v2⟩:=v
  cases r with
  |cons a b=>exact .cons (a.nr H (k _ aT)) (ih (λ w hw=>k w (ar _ hw)) b)
theorem SlR.nr (H:∀i,i<n->ρ[f i]? =τ[i]?){z:Option (Option AV)}(k:∀y,z=some y->okE n y){y:Option Value}(r:SlR KT ρ (z.map (pc f)) y):SlR KT τ z y:=by
 rcases z with _|_|v
 ·trivial
 ·trivial
 ·refine aQ r λ x a b=>?_;exact⟨x,a,b.nr H (k _ rfl _ rfl)⟩
theorem NsR.nr (H:∀i,i<n->ρ[f i]? =τ[i]?){z:Option (Option AV)}(k:∀y,z=some y->okE n y){y:Option (Option Value)}(r:NsR KT ρ (z.map (pc f)) y):NsR KT τ z y:=by
 rcases z with _|_|v
 ·exact r
 ·exact r
 ·refine aQ r λ x a b=>?_;exact⟨x,a,b.nr H (k _ rfl _ rfl)⟩
theorem OR.nr (H:∀i,i<n->ρ[f i]? =τ[i]?){o:AO}(k:okO n o){ob:Obj}(r:OR KT ρ (kq f o) ob):OR KT τ o ob:=by
 match o,k,r with
 |.any,_,_=>trivial
 |.list xs,k,r=>refine ez r λ vs n b c=>?_;exact⟨vs,n,b,c.nr H k⟩
 |.tup xs,k,r=>refine ez r λ vs n b c=>?_;exact⟨vs,n,b,c.nr H k⟩
 |.range _ _ _,_,r=>exact r
 |.cell none,_,r=>exact r
 |.cell (some v),k,r=>refine aQ r λ x a b=>?_;exact⟨x,a,b.nr H (k _ rfl)⟩
 |.dict true _ _,k,r=>refine dB r λ es xs a b c d e g=>?_;exact⟨es,xs,a,b,c,d,e,g.nr H k⟩
 |.dict false _ _,k,r=>refine dB r λ es xs a b c d e g=>?_;exact⟨es,xs,a,b,c,d,e,g.nr H k⟩
 |.set true _,_,r=>exact r
 |.set false _,_,r=>exact r
 |.inst _ _ _,k,r=>refine bR r λ dx sl a b c=>?_;exact⟨dx,sl,(H _ k.1).symm.trans a,b,λ i=>by have:=c i;rw[mG]at this;exact this.nr H λ y e=>k.2 y (ac e)⟩
 |.attrs _ _ _,k,r=>refine bz r λ es n a b d c=>?_;exact⟨es,n,a,b,d,λ i x e=>by have:=c i x e;rw[mG]at this;exact this.nr H λ y e=>k y (ac e)⟩
 |.lit _ _,k,r=>refine aQ r λ a e b=>?_;exact⟨a,(H _ k).symm.trans e,b⟩
 |.nxt _,k,r=>refine aQ r λ a e b=>?_;exact⟨a,(H _ k).symm.trans e,b⟩
 |.vals _,k,r=>refine aQ r λ a e b=>?_;exact⟨a,(H _ k).symm.trans e,b⟩
end
noncomputable def rf (π:List Nat)(i:Nat):Nat:=π.getD i 0
noncomputable def bk (π:List Nat)(L i:Nat):Nat:=if i<π.length then π.getD i 0 else L+(i - π.length)
structure oR (π:List Nat) (enc:List AO) (ws vs:List AV) (st:List AO):Prop where
 len:enc.length=π.length
 nd:π.Nodup
 at':∀(i p:Nat) (o:AO),π[i]? =some p->enc[i]? =some o->st[p]? =some (kq (rf π) o)
 vs:vs=ws.map (ko (rf π))
 ce:∀o∈enc,okO π.length o
 cv:∀v∈ws,pj π.length v
noncomputable def i4 (st:List AO)(π:List Nat)(st2:List AO)(p:Nat):AO:=
 if p<st.length then(if p∈π then kq (bk π st.length) (st2.getD (π.idxOf p) .any)else st.getD p .any)else kq (bk π st.length) (st2.getD (π.length+(p - st.length)) .any)
noncomputable def mM (st:List AO)(π:List Nat)(st2:List AO):List AO:=(List.range (st.length+(st2.length - π.length))).map (i4 st π st2)
noncomputable def tA (q:RF):Option (AV×List AO):=RF.rec (motive:=λ _=>Option (AV×List AO)) none (λ σ=>some (.none,σ.st)) (λ _=>none) (λ _=>none) (λ v σ=>some (v,σ.st)) q
theorem nW {q:RF}{v:AV}{st:List AO}(h:tA q=some (v,st)):q≠.no/\∃σ,σ.st=st/\(q= .nx σ/\v= .none∨q= .rt v σ):=by
 cases q with
 |no=>cases h
 |br=>cases h
 |ct=>cases h
 |nx σ=>cases h;exact⟨nofun,σ,rfl,.inl ⟨rfl,rfl⟩⟩
 |rt w σ=>cases h;exact⟨nofun,σ,rfl,.inr rfl⟩
noncomputable abbrev RG:=Nat->Bool->(Nat->Option (List AV))->List AV->List AO->Option (AV×List AO)
noncomputable def oS (G:Gd)(g:RG)(f:Addr):Prop:=
 ∀(C:Cx),CxOk G C->∀(d:Nat),d+1<=C.d->∀(hn':Bool),(hn'=true->C.hn=true)->∀(kt':Nat->Option (List AV)),(∀i xs,kt' i=some xs->∃a,G.KT.tab i=some (a,xs))->
  ∀(B:Base) (ρ:List Addr) (st:List AO) (s:Shared),G.h0.objs.size<=s.heap.objs.size->B sysModules≠none->(∀a o,G.h0.get? a=some o->B a≠none)->(∀h,Kept B h->Kept C.B h)->
  (lw B C.env.locals/\∀a,lw C.B a->lw B a)->Rep G.KT B ρ st s.heap->∀(vs:List AV) (xs:List Value),VRs G.KT ρ vs xs->∀(v:AV) (st':List AO),g d hn' kt' vs st=some (v,st')->
  ∀(Q:Result->Shared->Prop),(∀ρ' a h' tk',ρ<+:ρ'->Rep G.KT B ρ' st' h'->VR G.KT ρ' v a->Q (.ok (.ret a)) {s with heap:=h',toks:=tk'})->codeAny (model G.prog G.w) C.A (.call (.ref f) ⟨xs,[]⟩) Q s
noncomputable def mH (np n:Nat)(b:SF):RG:=λ d hn kt vs st=>bb (Nat.beq vs.length np) (tA (b ⟨[],d,hn,kt⟩ ⟨st,f_ vs n⟩)) none
section
variable{G:Gd}{N:Nm}{np n:Nat}{f:Addr}{fd:FuncData}{body:List Stmt}{b:SF}
theorem xN (F:eQ G N np f fd body)(hb:fw G N b body):oS G (mH np n b) f:=by
 intro C ok d hd hn' hhn kt' hkt B ρ st s hsz hsm hhb hB hfl R vs xs r v st' hq Q hQ
 refine ay hq λ hl h=>?_
 have hl:vs.length=np:=aE hl
 generalize hr:b ⟨[],d,hn',kt'⟩ ⟨st,f_ vs n⟩=q at h
 refine gc (nW h) λ hn σ hσ h2=>?_
 clear h
 subst hσ
 refine k6 F.toDefB hb ok hd hhn hkt hsz hsm hhb hB hfl R hl r (.of_eq (F.bind xs (by rw[← r.length,hl]))) hr hn λ ρ' a h' tk' p R'1 ra=>?_
 rcases h2 with⟨h2,rfl⟩|h2<;>rw[h2]at R'1 ra
 ·cases ra;exact hQ ρ' _ h' tk' p R'1 rfl
 ·refine aQ ra λ x z1_ rx=>?_;clear ra;subst z1_;exact hQ ρ' _ h' tk' p R'1 rx
noncomputable def tz (np n:Nat)(b:SF):RG:=λ d hn kt vs st=>bb (Nat.ble np vs.length) (bb (Nat.ble vs.length big) (tA (b ⟨[],d,hn,kt⟩ ⟨st++[.tup (vs.drop np)],f_ (vs.take np++[.ref st.length]) n⟩)) none) none
theorem dr_V (F:sg G N np f fd body)(hb:fw G N b body):oS G (tz np n b) f:=by
 intro C ok d hd hn' hhn kt' hkt B ρ st s hsz hsm hhb hB hfl R vs xs r v st' hq Q hQ
 refine ay hq λ hl h=>?_
 refine ay h λ hz h=>?_
 generalize hr:b ⟨[],d,hn',kt'⟩ ⟨st++[.tup (vs.drop np)],f_ (vs.take np++[.ref st.length]) n⟩=q at h
 refine gc (nW h) λ hn σ hσ h2=>?_
 clear h
 subst hσ
 refine uO F hb ok hd hhn hkt hsz hsm hhb hB hfl R (bA hl) (bA hz) r hr hn λ ρ' a h' tk' p R'1 ra=>?_
 rcases h2 with⟨h2,rfl⟩|h2<;>rw[h2]at R'1 ra
 ·cases ra;exact hQ ρ' _ h' tk' p R'1 rfl
 ·refine aQ ra λ x z1_ rx=>?_;clear ra;subst z1_;exact hQ ρ' _ h' tk' p R'1 rx
end
section
variable{G:Gd}{C:Cx}{ρ:List Addr}{σ:AS}{h:Heap}
theorem zy {b:Addr}{o:Obj}(z:jz C b)(e:h.get? b=some o):ch C h b=some (.ex o):=by unfold ch;rw[e];exact if_pos z
theorem zA {b:Addr}{o:Obj}(z:¬jz C b)(e:h.get? b=some o):ch C h b=some (.da o.data):=by unfold ch;rw[e];exact if_neg z
theorem zx {b:Addr}{x:BO}(e:ch C h b=some x):x.ok b (h.get? b):=by
 unfold ch at e
 split at e
 ·split at e
  ·rename_i q;cases e;exact q
  ·cases e
 ·rename_i o ho
  split at e
  ·cases e;exact ho
  ·cases e;exact⟨o,ho,rfl⟩
theorem u9 {b:Addr}(e:ch C h b=none):h.get? b=none/\b≠sysModules:=by
 unfold ch at e
 split at e
 ·rename_i q
  refine⟨q,λ z=>?_⟩
  rw[if_pos z]at e
  cases e
 ·split at e<;>cases e
open Classical in
noncomputable def fu (C:Cx)(h:Heap)(τ:List Addr):Base:=λ a=>if a∈τ then none else ch C h a
variable{τ:List Addr}
theorem nB {b:Addr}(e:b∉τ):fu C h τ b=ch C h b:=if_neg e
theorem uW {b:Addr}{o:Obj}(k:b∉τ)(z:jz C b)(e:h.get? b=some o):fu C h τ b=some (.ex o):=(nB k).trans (zy z e)
theorem lc {b:Addr}{o:Obj}(k:b∉τ)(z:¬jz C b)(e:h.get? b=some o):fu C h τ b=some (.da o.data):=(nB k).trans (zA z e)
theorem zh {b:Addr}{x:BO}(e:fu C h τ b=some x):x.ok b (h.get? b):=by
 unfold fu at e
 split at e
 ·cases e
 ·exact zx e
theorem xP {π:List Nat}{L i:Nat}(hi:i<π.length):bk π L i=rf π i:=if_pos hi
end
structure Sel where
 π:List Nat
 enc:List AO
 ws:List AV
open Classical in
noncomputable def fK (d0:Nat)(kt:Nat->Option (List AV))(sel:List AV->List AO->Option Sel)(g:RG):CF:=λ D vs σ=>bb D.hn (bb (Nat.ble (Nat.succ d0) D.d) (Op.b (sel vs σ.st) .no λ z=>
 if oR z.π z.enc z.ws vs σ.st then Op.b (g d0 true kt z.ws z.enc) .no λ r=>.ok (ko (bk z.π σ.st.length) r.1) ⟨mM σ.st z.π r.2,σ.fr⟩else .no) .no) .no
section
variable{G:Gd}{C:Cx}{ρ:List Addr}{σ:AS}{f:Addr}
theorem vZ {g:RG}{d0:Nat}{kt:Nat->Option (List AV)}(hkt:∀i xs,kt i=some xs->∃a,G.KT.tab i=some (a,xs))(D:oS G g f){π:List Nat}{enc st2:List AO}{ws vs:List AV}{w:AV}{s:Shared}{xs:List Value}
  (S:SR G C ρ σ s.heap) (hn:C.hn=true) (hd:d0+1<=C.d) (I:oR π enc ws vs σ.st) (hg:g d0 true kt ws enc=some (w,st2)) (r:VRs G.KT ρ vs xs) {R:Result->Shared->Prop}
  (hQ:∀ρ' a h' tk',ρ<+:ρ'->SR G C ρ' ⟨mM σ.st π st2,σ.fr⟩ h'->VR G.KT ρ' (ko (bk π σ.st.length) w) a->R (.ok (.ret a)) {s with heap:=h',toks:=tk'}):
  codeAny (model G.prog G.w) C.A (.call (.ref f) ⟨xs,[]⟩) R s:=by
 have hπ:∀i p,π[i]? =some p->∃a,ρ[p]? =some a/\p<σ.st.length:=λ i p e=>by
  have hi:i<enc.length:=I.len▸(aa.mp e).1
  have:=I.at' i p _ e (ae hi)
  refine eE (S.rep.at this) λ a ha=>?_
  exact⟨a,ha,(aa.mp this).1⟩
 let τ:List Addr:=π.map λ p=>ρ.getD p 0
 have hτl:τ.length=π.length:=aD ..
 have hτ:∀i,i<π.length->ρ[rf π i]? =τ[i]? :=λ i hi=>by
  refine aQ (hπ i _ (ae hi)) λ a ha _=>?_
  have e1:rf π i=π[i]:=by unfold rf;rw[aG,ae hi];rfl
  rw[e1,ha,aB,ae hi]
  show _=some (ρ.getD π[i] 0)
  rw[aG,ha];rfl
 have hτm:∀a∈τ,a∈ρ:=λ a ha=>by
  refine eE (List.mem_iff_getElem.mp ha) λ i z1_=>?_;obtain⟨hi,rfl⟩:=z1_
  have hi':i<π.length:=hτl▸hi
  exact ac ((hτ i hi').trans (ae hi))
 have hτn:τ.Nodup:=by
  refine List.pairwise_iff_getElem.mpr λ i j hi hj hij e=>?_
  have hj':j<π.length:=hτl▸hj
  have hi':i<π.length:=hτl▸hi
  refine aQ (hπ i _ (ae hi')) λ a ha _=>?_
  refine aQ (hπ j _ (ae hj')) λ b hb _=>?_
  have e1:∀k (hk:k<π.length),rf π k=π[k]:=λ k hk=>by unfold rf;rw[aG,ae hk];rfl
  have e2:=hτ i hi'
  have e3:=hτ j hj'
  rw[e1 i hi',ha,ae hi]at e2
  rw[e1 j hj',hb,ae hj]at e3
  have e4:a=b:=(aj e2).trans (e.trans (aj e3).symm)
  subst e4
  exact(List.pairwise_iff_getElem.mp I.nd) i j hi' hj' hij (dX S.rep.nd ha hb)
 have nF:∀a∈ρ,jz C a:=λ a ha=>⟨λ q=>S.Lρ (q▸ha),λ d q=>(by rw[S.rep.off a ha]at q;cases q)⟩
 have hoff:∀b x,C.B b=some x->b∉τ:=λ b x e q=>by rw[S.rep.off b (hτm b q)]at e;cases e
 have hL:C.env.locals∉τ:=λ q=>S.Lρ (hτm _ q)
 refine aQ S.fr λ m hns hfr=>?_
 refine eX (id hns) λ oL es ep hoL hdL _=>?_
 have R0:Rep G.KT (fu C s.heap τ) τ enc s.heap:=by
  refine⟨λ b x e=>zh e,by rw[hτl,I.len],hτn,λ a ha=>if_pos ha,λ i a o e1 e2=>?_⟩
  have hi:i<π.length:=I.len▸(aa.mp e2).1
  have e3:=I.at' i _ o (ae hi) e2
  refine aQ (S.rep.obj π[i] a _ (by have:=hτ i hi;unfold rf at this;rw[aG,ae hi]at this;exact this.trans e1) e3) λ ob e r=>?_
  exact⟨ob,e,r.nr hτ (I.ce o (ac e2))⟩
 have hkept:∀h,Kept (fu C s.heap τ) h->Kept C.B h:=λ h k b x e=>by
  have kb:=hoff b x e
  have q:=S.rep.kept b x e
  cases x with
  |ex o=>exact k b _ (uW kb ⟨λ z=>(by rw[z,S.ok.Lb]at e;cases e),λ d z=>(by rw[e]at z;cases z)⟩ q)
  |da d=>
   refine aQ q λ o q1 q2=>?_
   refine aQ (k b _ (lc kb (λ z=>z.2 d e) q1)) λ o' q3 q4=>?_
   exact⟨o',q3,q4.trans q2⟩
  |no=>exact q
 have hbn:∀b,C.B b≠none->fu C s.heap τ b≠none:=λ b e q=>by
  cases z:C.B b with
  |none=>exact e z
  |some x=>
   rw[nB (hoff b x z)]at q
   refine eA (u9 q) λ q1 q2=>?_
   have k:=S.rep.kept b x z
   cases x with
   |ex o=>rw[show s.heap.get? b=some o from k]at q1;cases q1
   |da d=>refine aQ k λ o k1 _=>?_;rw[k1]at q1;cases q1
   |no=>exact q2 k
 refine D C S.ok d0 hd true (λ _=>hn) kt hkt (fu C s.heap τ) τ enc s (Nat.le_trans S.ok.ab (Nat.le_of_lt S.lnlt)) (hbn _ S.ok.sm) (λ b o e=>hbn b (S.ok.h0B b o e)) hkept
  ⟨⟨oL.data,lc hL (λ z=>z.1 rfl) hoL,λ vs q=>(by rw[hdL]at q;cases q)⟩,λ a ⟨d,q1,q2⟩=>by
   refine aQ (S.rep.kept a _ q1) λ o q3 q4=>?_
   exact⟨o.data,lc (hoff a _ q1) (λ z=>z.2 d q1) q3,by rw[q4];exact q2⟩⟩ R0 ws xs ?_ w st2 hg R λ τ' a h' tk' p R'1 ra=>?_
 ·rw[I.vs]at r
  exact r.nr hτ I.cv
 have hl1:ρ.length=σ.st.length:=S.rep.len
 have hl2:τ'.length=st2.length:=R'1.len
 have hl3:π.length<=τ'.length:=by rw[← hτl];exact p.length_le
 let ρ':=ρ++τ'.drop π.length
 have hρ':∀(i:Nat) (a:Addr),τ'[i]? =some a->ρ'[bk π σ.st.length i]? =some a:=λ i a e=>by
  by_cases hi:i<π.length
  ·rw[xP hi]
   have e1:τ[i]? =some a:=by
    refine eE p λ t z1_=>?_;clear p;subst z1_
    rw[aL (by rw[hτl];exact hi)]at e;exact e
   have e2:=(hτ i hi).trans e1
   show(ρ++_)[rf π i]? =_
   rw[aL (aa.mp e2).1];exact e2
  ·have e1:bk π σ.st.length i=σ.st.length+(i - π.length):=if_neg hi
   rw[e1]
   show(ρ++_)[_]? =_
   rw[az (by exact ω94 hl1),List.getElem?_drop]
   rw[show π.length+(σ.st.length+(i - π.length) - ρ.length)=i by exact ω95 hl1 hi];exact e
 have Rm:Rep G.KT C.B ρ' (mM σ.st π st2) h':=by
  refine⟨hkept _ R'1.kept,?_,?_,?_,?_⟩
  ·show(ρ++_).length=_
   unfold mM
   rw[aU,List.length_drop,aD,List.length_range];exact ω96 hl1 hl2
  ·show(ρ++_).Nodup
   rw[List.nodup_append]
   refine⟨S.rep.nd,(List.drop_sublist _ _).nodup R'1.nd,λ a ha b hb e=>?_⟩
   subst e
   have o1:=R'1.off a (List.mem_of_mem_drop hb)
   by_cases q:a∈τ
   ·refine eE p λ t z1_=>?_;clear p;subst z1_
    rw[← hτl,List.drop_left]at hb
    exact(List.nodup_append.mp R'1.nd).2.2 a q a hb rfl
   ·rw[nB q]at o1
    have:=(u9 o1).1
    have hlt:=S.rep.lt ha
    refine eE (List.mem_iff_getElem.mp ha) λ i z1_=>?_;obtain⟨hi,hia⟩:=z1_
    refine aQ (S.rep.obj i a _ (by rw[ae hi,hia]) (ae (hl1▸hi))) λ ob e _=>?_
    rw[this]at e;cases e
  ·intro a ha
   rcases bn.mp ha with ha|ha
   ·exact S.rep.off a ha
   ·have o1:=R'1.off a (List.mem_of_mem_drop ha)
    cases z:C.B a with
    |none=>rfl
    |some x=>exact absurd o1 (hbn a (by rw[z];nofun))
  ·intro i a o e1 e2
   have hi:i<σ.st.length+(st2.length - π.length):=by have:=(aa.mp e2).1;unfold mM at this;rw[aD,List.length_range]at this;exact this
   have e3:o=i4 σ.st π st2 i:=by
    unfold mM at e2
    rw[aB,List.getElem?_range hi]at e2
    exact(aj e2).symm
   subst e3
   have sub:∀j,(j<τ'.length)->ρ'[i]? =ρ'[bk π σ.st.length j]?->∃ob,h'.get? a=some ob/\OR G.KT ρ' (kq (bk π σ.st.length) (st2.getD j .any)) ob:=λ j hj e=>by
    have e4:=hρ' j _ (ae hj)
    rw[← e,e1]at e4
    have e5:st2[j]? =some (st2.getD j .any):=by rw[aG,ae (hl2▸hj)];rfl
    refine aQ (R'1.obj j a _ ((ae hj).trans e4.symm) e5) λ ob k1 k2=>?_
    exact⟨ob,k1,k2.rn hρ'⟩
   unfold i4
   by_cases hiL:i<σ.st.length
   ·rw[if_pos hiL]
    by_cases hm:i∈π
    ·rw[if_pos hm]
     have hj:π.idxOf i<π.length:=List.idxOf_lt_length_iff.mpr hm
     refine sub _ (by exact ω97 hj hl3) ?_
     rw[xP hj]
     unfold rf
     rw[aG,ae hj,Option.getD_some,List.getElem_idxOf]
    ·rw[if_neg hm]
     have e4:ρ[i]? =some a:=by
      have:(ρ++_)[i]? =some a:=e1
      rw[aL (by exact ω98 hiL hl1)]at this;exact this
     have e5:σ.st[i]? =some (σ.st.getD i .any):=by rw[aG,ae hiL];rfl
     refine aQ (S.rep.obj i a _ e4 e5) λ ob k1 k2=>?_
     have ha:a∈ρ:=ac e4
     have haτ:a∉τ:=λ q=>by
      refine eE (List.mem_iff_getElem.mp q) λ j z1_=>?_;obtain⟨hj,hja⟩:=z1_
      have hj':j<π.length:=hτl▸hj
      have e6:=hτ j hj'
      rw[ae hj,hja]at e6
      have:=dX S.rep.nd e4 e6
      apply hm
      rw[this]
      unfold rf
      rw[aG,ae hj']
      exact List.getElem_mem _
     exact⟨ob,R'1.kept a _ (uW haτ (nF a ha) k1),k2.mono (ai _ _)⟩
   ·rw[if_neg hiL]
    refine sub _ (by exact ω99 hi hl2 hiL) ?_
    unfold bk
    rw[if_neg (by exact xp)]
    congr 1
    exact ω101 hiL
 have hLρ':C.env.locals∉ρ':=λ q=>by
  rcases bn.mp q with q|q
  ·exact S.Lρ q
  ·have o1:=R'1.off _ (List.mem_of_mem_drop q)
   rw[lc hL (λ z=>z.1 rfl) hoL]at o1
   cases o1
 refine hQ ρ' a h' tk' (ai _ _) ⟨Rm,⟨m,jX hns hoL (R'1.kept _ _ (lc hL (λ z=>z.1 rfl) hoL)),λ i v e=>?_⟩,hLρ',S.cells.mono (ai _ _),S.ok⟩ (ra.rn hρ')
 refine bR (hfr i v e) λ x v' c d r=>?_
 exact⟨x,v',c,d,r.mono (ai _ _)⟩
theorem ib {g:RG}{d0:Nat}{kt:Nat->Option (List AV)}(hkt:∀i xs,kt i=some xs->∃a,G.KT.tab i=some (a,xs)){sel:List AV->List AO->Option Sel}(D:oS G g f):SCc G (fK d0 kt sel g) (.ref f):=by
 intro C σ σ' vs v h ρ s xs r S R hQ
 refine ay h λ hn h1=>?_
 refine ay h1 λ hd h2=>?_
 refine Op.elim h2 λ z hz h3=>?_
 by_cases I:oR z.π z.enc z.ws vs σ.st
 ·rw[if_pos I]at h3
  refine aQ (Op.inv h3 (by nofun)) λ z1_ h4 h5=>?_;obtain⟨w,st2⟩:=z1_
  clear h h1 h2 h3 hz
  cases h5
  exact vZ hkt D S hn (bA hd) I h4 r hQ
 ·rw[if_neg I]at h3
  cases h3
end
noncomputable def AV.bo {β:Type}(v:AV)(n:β)(k:Bool->β):β:=AV.rec (motive:=λ _=>β) n k (λ _=>n) (λ _=>n) (λ _=>n) (λ _=>n) v
noncomputable def jw (l:List AV):Option (List Bool):=List.rec (motive:=λ _=>Option (List Bool)) (some []) (λ v _ ih=>v.bo none λ i=>Op.b ih none λ r=>some (i::r)) l
theorem l9:∀{l:List AV} {ns:List Bool},jw l=some ns->l=ns.map .bool
 |[],_,h=>by cases h;rfl
 |v::l,ns,h=>by
  cases v with
  |bool b=>
   refine Op.elim (show Op.b (jw l) none (λ r=>some (b::r))=some ns from h) λ r h2 h3=>?_
   cases h3
   rw[l9 h2]
   rfl
  |_=>cases h
theorem ld:∀ns:List Bool,jw (ns.map .bool)=some ns
 |[]=>rfl
 |n::ns=>by
  show Op.b (jw (ns.map .bool)) none (λ r=>some (n::r))=_
  rw[ld ns];rfl
theorem VRs.bools {KT:b4}{ρ:List Addr}:∀{bs:List Bool} {vs:List Value},VRs KT ρ (bs.map .bool) vs->vs=bs.map .bool
 |[],_,h=>by cases h;rfl
 |b::bs,_,h=>by
  cases h with
  |cons a r=>cases a;rw[r.bools];rfl
section
variable{G:Gd}{N:Nm}
noncomputable def i5:MF:=λ D o vs σ=>match vs with
 |[v]=>Op.b (mU o σ.st) .no λ p=>Op.b (iS v σ.st) .no λ xs=>bb (Nat.ble (p.2.length+xs.length) 1000) (.ok .none ⟨cr σ.st p.1 (.list (p.2++xs)),σ.fr⟩) .no
 |_=>.no
theorem rF:SM G i5 .list "extend" "list.extend":=by
 refine⟨F.plainAttrs_list,F.slot_list_extend,F.type_list_extend,?_⟩
 intro C σ σ' o vs v h ρ s x xs r rs S E Q hQ
 cases rs with
 |nil=>cases h
 |cons rk rs=>
 cases rs with
 |cons _ _=>cases h
 |nil=>
 refine aQ (Op.inv h (by nofun)) λ z1_ h1 h2=>?_;obtain⟨p,l⟩:=z1_
 refine Op.elim h2 λ ys h3 h4=>?_
 refine ay h4 λ h5 h6=>?_
 clear h h2 h4
 rw[bw]at h6
 refine cY (gj S h1 r) λ a its n ha z1_ hst ho r1 hz hl=>?_;subst z1_
 have h5:l.length+ys.length<=1000:=aO h5
 clear h1
 refine aQ (sS h3) λ i zi hst2=>?_
 rw[zi]at rk
 refine aQ rk λ b hb z1_=>?_;clear rk;subst z1_
 cases h6
 rcases hst2 with hst2|hst2
 ·refine bC (S.obj hb hst2) λ ob1 ho1 ws n1 z1_ r2=>?_;subst z1_
  have hl2:ws.size=ys.length:=by rw[r2.length];simp
  refine call_meets F.slot_list_extend ⟨_,ho,rfl⟩ F.entry_list_extend (F.args_list_extend_2 _ _) (AutoSeq1.list_extend_list_list_0 a its n b ws n1 (by rw[hl,hl2];unfold Builtin.List.listTooLong;have:=sizeLine_eq;simp;lia) (by rw[sizeLine_eq];exact xo hl h5) (by rw[sizeLine_eq];exact xn hl hl2 h5)) ⟨ho,ho1,?_⟩
  refine hQ ρ _ _ _ (ah _) (S.upd ha (bq ..) ⟨_,IsL.update ho _,its++ws,_,rfl,?_⟩) rfl
  rw[Array.toList_append]
  exact r1.append r2
 ·refine bC (S.obj hb hst2) λ ob1 ho1 ws n1 z1_ r2=>?_;subst z1_
  have hl2:ws.size=ys.length:=by rw[r2.length];simp
  refine call_meets F.slot_list_extend ⟨_,ho,rfl⟩ F.entry_list_extend (F.args_list_extend_2 _ _) (AutoSeq1.list_extend_list_tuple_0 a its n b ws n1 (by rw[hl,hl2];unfold Builtin.List.listTooLong;have:=sizeLine_eq;simp;lia) (by rw[sizeLine_eq];exact xo hl h5) (by rw[sizeLine_eq];exact xn hl hl2 h5)) ⟨ho,ho1,?_⟩
  refine hQ ρ _ _ _ (ah _) (S.upd ha (bq ..) ⟨_,IsL.update ho _,its++ws,_,rfl,?_⟩) rfl
  rw[Array.toList_append]
  exact r1.append r2
noncomputable def pQ:CF:=λ D vs σ=>match vs with
 |[x]=>bb D.hn (Op.b (mU x σ.st) .no λ p=>Op.b (jw p.2) .no λ bs=>.ok (.bool (bs.all id)) σ) .no
 |_=>.no
theorem yk:SC G pQ (.builtin "all"):=by
 intro C σ σ' vs v h ρ s xs r S E Q hQ
 unfold pQ at h
 split at h
 ·cases r with
  |cons rk rs=>
  cases rs
  refine ay h λ hn h1=>?_
  refine aQ (Op.inv h1 (by nofun)) λ z1_ h2 h3=>?_;obtain⟨p,l⟩:=z1_
  refine Op.elim h3 λ bs h4 h5=>?_
  clear h h1 h3
  refine cY (gj S h2 rk) λ a its n ha z1_ hst ho r1 hz hl=>?_;subst z1_
  have h4:l=bs.map .bool:=l9 h4
  cases h5
  subst h4
  have e:=r1.bools
  have hL:s.heap.IsList a its:=⟨_,ho,rfl,n,rfl⟩
  refine call_all_walk (wpAny_pyIter_list hL ?_)
  have hne:a≠s.heap.objs.size:=Nat.ne_of_lt (Heap.lt_size ho)
  refine⟨_,_,_,_,_,_,λ i=>bs.getD i true,rfl,Walks.list (A:=C.A.in1) (S.ok.hh hn) _ a hne its,⟨⟨_,aY _ rfl,rfl,rfl⟩,hL.push _⟩,?_,λ h' tk hk=>?_⟩
  ·intro i v s Q E hv hq
   have e2:(bs.map Value.bool)[i]? =some v:=by rw[← e,Array.getElem?_toList];exact hv
   rw[aB]at e2
   cases e3:bs[i]? with
   |none=>rw[e3]at e2;cases e2
   |some b=>
    rw[e3]at e2
    cases e2
    have e4:bs.getD i true=b:=by rw[aG,e3];rfl
    dsimp only at hq
    rw[e4]at hq
    exact wpAny_truthy_bool hq
  ·have S'1:SR G C ρ σ h':=S.ext λ b o eb=>hk b o (by simp;exact Nat.ne_of_lt (Heap.lt_size eb)) (av _ eb)
   refine hQ ρ _ h' tk (ah _) S'1 ?_
   show _=_
   have hsz:its.size=bs.length:=by rw[hl];simp
   rw[hsz]
   congr 1
   rw[Bool.eq_iff_iff,List.all_eq_true,List.all_eq_true]
   constructor
   ·intro H b hb
    refine eE (List.mem_iff_getElem.mp hb) λ i z1_=>?_;obtain⟨hi,rfl⟩:=z1_
    have:=H i (List.mem_range.mpr hi)
    rw[aG,ae hi]at this;exact this
   ·intro H i hi
    have hi:=List.mem_range.mp hi
    rw[aG,ae hi];exact H _ (List.getElem_mem _)
 ·cases h
end
noncomputable def uU (t:TF)(a b:EF):EF:=λ D σ=>(t D σ).b .no λ x σ1=>bb x (a D σ1) (b D σ1)
section
variable{G:Gd}{N:Nm}
end
noncomputable def Vl:Nat->Type
 |0=>AV
 |n+1=>List (Vl n)
inductive Fa2 {α β:Type} (R:α->β->Prop):List α->List β->Prop
 |nil:Fa2 R [] []
 |cons {a b as bs}:R a b->Fa2 R as bs->Fa2 R (a::as) (b::bs)
section
variable{α β:Type}{R S:α->β->Prop}
theorem Fa2.mono (H:∀a b,R a b->S a b){as:List α}{bs:List β}(h:Fa2 R as bs):Fa2 S as bs:=by
 induction h with
 |nil=>exact .nil
 |cons a _ ih=>exact .cons (H _ _ a) ih
theorem Fa2.length {as:List α}{bs:List β}(h:Fa2 R as bs):as.length=bs.length:=by
 induction h with
 |nil=>rfl
 |cons _ _ ih=>rw[bL,bL,ih]
theorem Fa2.get {as:List α}{bs:List β}(h:Fa2 R as bs):∀{i:Nat} {a:α},as[i]? =some a->∃b,bs[i]? =some b/\R a b:=by
 induction h with
 |nil=>intro i a e;cases e
 |cons r _ ih=>
  intro i a e
  cases i with
  |zero=>cases e;exact⟨_,rfl,r⟩
  |succ i=>exact ih e
theorem Fa2.append {as cs:List α}{bs ds:List β}(h:Fa2 R as bs)(k:Fa2 R cs ds):Fa2 R (as++cs) (bs++ds):=by
 induction h with
 |nil=>exact k
 |cons a _ ih=>exact .cons a ih
theorem Fa2.drop {as:List α}{bs:List β}(h:Fa2 R as bs):∀n,Fa2 R (as.drop n) (bs.drop n):=by
 induction h with
 |nil=>intro n;cases n<;>exact .nil
 |cons a h ih=>
  intro n
  cases n with
  |zero=>exact .cons a h
  |succ n=>exact ih n
theorem Fa2.take {as:List α}{bs:List β}(h:Fa2 R as bs):∀n,Fa2 R (as.take n) (bs.take n):=by
 induction h with
 |nil=>intro n;cases n<;>exact .nil
 |cons a h ih=>
  intro n
  cases n with
  |zero=>exact .nil
  |succ n=>exact .cons a (ih n)
end
noncomputable def U (st:List AO)(F:Nat->Prop):(n:Nat)->Vl n->AV->Prop
 |0,V,v=>v=V/\flat v=true
 |n+1,V,v=>∃r vs,v= .ref r/\¬F r/\st[r]? =some (.list vs)/\Fa2 (U st F n) V vs
noncomputable abbrev Us (st:List AO)(F:Nat->Prop)(n:Nat)(xs:List (Vl n))(vs:List AV):Prop:=Fa2 (U st F n) xs vs
theorem U.mono {st st':List AO}{F F':Nat->Prop}(H:∀p o,st[p]? =some o->¬F p->st'[p]? =some o/\¬F' p):∀{n:Nat} {V:Vl n} {v:AV},U st F n V v->U st' F' n V v
 |0,_,_,h=>h
 |n+1,_,_,⟨r,vs,e,hr,hs,hu⟩=>⟨r,vs,e,(H r _ hs hr).2,(H r _ hs hr).1,hu.mono λ _ _=>U.mono H⟩
theorem bZ {st st':List AO}(h:st<+:st'){p:Nat}{o:AO}(e:st[p]? =some o):st'[p]? =some o:=cx h e
theorem U.pre {st st':List AO}{F:Nat->Prop}(h:st<+:st'){n:Nat}{V:Vl n}{v:AV}(u:U st F n V v):U st' F n V v:=u.mono λ p o e k=>⟨bZ h e,k⟩
theorem Us.pre {st st':List AO}{F:Nat->Prop}(h:st<+:st'){n:Nat}{V:List (Vl n)}{vs:List AV}(u:Us st F n V vs):Us st' F n V vs:=Fa2.mono (λ _ _=>U.pre h) u
theorem Us.flat {st:List AO}{F:Nat->Prop}:∀{xs:List (Vl 0)} {vs:List AV},Us st F 0 xs vs->vs=xs/\vs.all Mine.flat=true:=by
 intro xs vs h
 induction h with
 |nil=>exact⟨rfl,rfl⟩
 |cons a r ih=>exact eA a λ e h=>eA ih λ e2 k=>⟨by rw[e,e2];rfl,by rw[List.all_cons,h,k];rfl⟩
theorem Us.of_flat {st:List AO}{F:Nat->Prop}:∀{xs:List AV},xs.all Mine.flat=true->Us st F 0 xs xs
 |[],_=>.nil
 |x::xs,h=>by
  rw[List.all_cons,Bool.and_eq_true]at h
  exact .cons ⟨rfl,h.1⟩ (Us.of_flat h.2)
inductive VV where
 |val (n:Nat) (V:Vl n)
 |own (r:Nat) (n:Nat) (xs:List (Vl n))
 |rdo (r:Nat) (n:Nat) (xs:List (Vl n))
 |obj (r:Nat) (π:List Nat) (enc:List AO)
noncomputable abbrev VE:=List (Option VV)
noncomputable def pl:VV->List Nat
 |.own r _ _=>[r]
 |.obj _ π _=>π
 |_=>[]
noncomputable def bl (X W:Nat->Prop)(env:VE)(p:Nat):Prop:=X p∨W p∨∃(i:Nat) (w:VV),env[i]? =some (some w)/\p∈pl w
structure ei where
 sel:Nat->List AO->Option (List Nat×List AO)
 keep:∀{r:Nat} {st st':List AO} {π:List Nat} {enc:List AO},sel r st=some (π,enc)->(∀(p:Nat),p∈π->st'[p]? =st[p]?)->sel r st'=some (π,enc)
 lt:∀{r:Nat} {st:List AO} {π:List Nat} {enc:List AO},sel r st=some (π,enc)->∀(p:Nat),p∈π->p<st.length
noncomputable def VOk (O:ei)(st:List AO)(F X:Nat->Prop):VV->AV->Prop
 |.val n V,v=>U st F n V v
 |.own r n xs,v=>v= .ref r/\∃vs,st[r]? =some (.list vs)/\Us st F n xs vs
 |.rdo r n xs,v=>v= .ref r/\X r/\∃vs,st[r]? =some (.list vs)/\Us st F n xs vs
 |.obj r π enc,v=>v= .ref r/\O.sel r st=some (π,enc)
structure Rel (O:ei) (D:Dn) (X W:Nat->Prop) (env:VE) (σ:AS):Prop where
 len:env.length<=σ.fr.length
 lt:∀p,bl X W env p->p<σ.st.length
 xw:∀p,X p->¬W p
 dis:∀(i:Nat) (w:VV) (p:Nat),env[i]? =some (some w)->p∈pl w->¬X p/\¬W p/\∀(j:Nat) (w':VV),env[j]? =some (some w')->p∈pl w'->i=j
 cel:∀(i k:Nat),D.cs[i]? =some (some k)->W k->∃z,σ.st[k]? =some (.cell z)
 cnd:∀(i j k:Nat),D.cs[i]? =some (some k)->D.cs[j]? =some (some k)->W k->i=j
 csx:∀(i k:Nat),D.cs[i]? =some (some k)->X k∨W k
 at':∀(i:Nat) (w:VV),env[i]? =some (some w)->∃v,bG D.cs σ i=some v/\VOk O σ.st (bl X W env) X w v
section
variable{O:ei}{D:Dn}{X W:Nat->Prop}{env:VE}{σ:AS}
theorem iK {cs:List (Option Nat)}{st st':List AO}{fr:List (Option AV)}(h:∀(p:Nat) (o:AO),st[p]? =some o->st'[p]? =some o){i:Nat}{v:AV}(e:bG cs ⟨st,fr⟩ i=some v):bG cs ⟨st',fr⟩ i=some v:=by
 unfold bG at e ⊢
 cases q:cs[i]? with
 |none=>rw[q]at e;exact e
 |some z=>
  rw[q]at e
  cases z with
  |none=>exact e
  |some k=>
   dsimp only at e ⊢
   cases q2:st[k]? with
   |none=>rw[q2]at e;cases e
   |some o=>rw[q2]at e;rw[h k o q2];exact e
theorem jI {i:Nat}{v:AV}(h:bG D.cs σ i=some v):cV i D σ= .ok v σ:=by
 unfold bG at h
 unfold cV
 rw[aS]
 cases q:D.cs[i]? with
 |none=>
  rw[q]at h
  show oW i σ=_
  unfold oW
  rw[aS]
  dsimp only at h
  cases q2:σ.fr[i]? with
  |none=>rw[q2]at h;cases h
  |some z=>
   rw[q2]at h
   cases z with
   |none=>cases h
   |some w=>cases h;rfl
 |some z=>
  rw[q]at h
  cases z with
  |none=>
   show oW i σ=_
   unfold oW
   rw[aS]
   dsimp only at h
   cases q2:σ.fr[i]? with
   |none=>rw[q2]at h;cases h
   |some z=>
    rw[q2]at h
    cases z with
    |none=>cases h
    |some w=>cases h;rfl
  |some k=>
   show vj k σ=_
   unfold vj
   rw[aS]
   dsimp only at h
   cases q2:σ.st[k]? with
   |none=>rw[q2]at h;cases h
   |some o=>
    rw[q2]at h
    cases o with
    |cell z=>
     cases z with
     |none=>cases h
     |some w=>cases h;rfl
    |_=>cases h
theorem VOk.mono {st st':List AO}{F F' X':Nat->Prop}{w:VV}{v:AV}(H:∀p o,st[p]? =some o->¬F p->st'[p]? =some o/\¬F' p)(hp:∀p,p∈pl w->st'[p]? =st[p]?)(hx:∀p,X p->X' p/\st'[p]? =st[p]?)(h:VOk O st F X w v):VOk O st' F' X' w v:=by
 cases w with
 |val n V=>exact U.mono H h
 |own r n xs=>refine gc h λ e vs h1 h2=>?_;exact⟨e,vs,(hp r (by simp[pl])).trans h1,h2.mono λ _ _=>U.mono H⟩
 |rdo r n xs=>refine jH h λ e h0 vs h1 h2=>?_;exact⟨e,(hx r h0).1,vs,(hx r h0).2.trans h1,h2.mono λ _ _=>U.mono H⟩
 |obj r π enc=>exact⟨h.1,O.keep h.2 hp⟩
theorem Rel.grow {st':List AO}(R:Rel O D X W env σ)(h:σ.st<+:st'):Rel O D X W env ⟨st',σ.fr⟩:=by
 have hk:∀p,p<σ.st.length->st'[p]? =σ.st[p]? :=λ p hp=>by
  rw[ae hp];exact bZ h (ae hp)
 refine⟨R.len,λ p hp=>aN (R.lt p hp) h.length_le,R.xw,R.dis,λ i k e w=>?_,R.cnd,R.csx,λ i w e=>?_⟩
 ·refine eE (R.cel i k e w) λ z hz=>?_;exact⟨z,bZ h hz⟩
 ·refine aQ (R.at' i w e) λ v h1 h2=>?_
  exact⟨v,iK (λ p o=>bZ h) h1,h2.mono (λ p o e k=>⟨bZ h e,k⟩) (λ p hp=>hk p (R.lt p (.inr (.inr ⟨i,w,e,hp⟩)))) λ p hp=>⟨hp,hk p (R.lt p (.inl hp))⟩⟩
noncomputable def EX (O:ei)(D:Dn)(X W:Nat->Prop)(env:VE)(e:EF)(n:Nat)(V:Vl n):Prop:=
 ∀σ,Rel O D X W env σ->∃v st',e D σ= .ok v ⟨st',σ.fr⟩/\σ.st<+:st'/\U st' (bl X W env) n V v
noncomputable def EL (O:ei)(D:Dn)(X W:Nat->Prop)(env:VE)(e:EF)(n:Nat)(xs:List (Vl n)):Prop:=
 ∀σ,Rel O D X W env σ->∃r vs st',e D σ= .ok (.ref r) ⟨st',σ.fr⟩/\σ.st<+:st'/\¬W r/\st'[r]? =some (.list vs)/\Us st' (bl X W env) n xs vs
noncomputable def ET (O:ei)(D:Dn)(X W:Nat->Prop)(env:VE)(t:TF)(b:Bool):Prop:=
 ∀σ,Rel O D X W env σ->∃st',t D σ= .ok b ⟨st',σ.fr⟩/\σ.st<+:st'
inductive j6 where
 |mk (n:Nat) (V:Vl n)
noncomputable def UA (st:List AO)(F:Nat->Prop)(t:j6)(v:AV):Prop:=match t with
 |.mk n V=>U st F n V v
noncomputable def EA (O:ei)(D:Dn)(X W:Nat->Prop)(env:VE)(l:LF)(ts:List j6):Prop:=
 ∀σ,Rel O D X W env σ->∃vs st',l D σ= .ok vs ⟨st',σ.fr⟩/\σ.st<+:st'/\Fa2 (UA st' (bl X W env)) ts vs
theorem EX.list {e:EF}{n:Nat}{xs:List (Vl n)}(h:EX O D X W env e (n+1) xs):EL O D X W env e n xs:=λ σ R=>by
 refine kZ (h σ R) λ v st' h1 h2 r vs z1_ h3 h4 h5=>?_;subst z1_
 exact⟨r,vs,st',h1,h2,λ q=>h3 (.inr (.inl q)),h4,h5⟩
theorem cS {v:AV}(h:flat v=true):EX O D X W env (cC v) 0 v:=λ σ R=>⟨v,σ.st,rfl,ah _,rfl,h⟩
theorem bJ {i n:Nat}{V:Vl n}(h:env[i]? =some (some (.val n V))):EX O D X W env (cV i) n V:=λ σ R=>by
 refine aQ (R.at' i _ h) λ v h1 h2=>?_
 exact⟨v,σ.st,jI h1,ah _,h2⟩
theorem pJ {i r n:Nat}{xs:List (Vl n)}(h:env[i]? =some (some (.own r n xs))):EL O D X W env (cV i) n xs:=λ σ R=>by
 refine ni (R.at' i _ h) λ v h1 z1_ vs h2 h3=>?_;subst z1_
 exact⟨r,vs,σ.st,jI h1,ah _,(R.dis i _ r h (by simp[pl])).2.1,h2,h3⟩
theorem pH {a:EF}{m:Int}(h:EX O D X W env a 0 (.int m)):EX O D X W env (nz a) 0 (.int (-m)):=λ σ R=>by
 refine bz (h σ R) λ v st' h1 h2 z1_ _=>?_;subst z1_
 refine⟨_,st',?_,h2,rfl,rfl⟩
 unfold nz
 rw[h1]
 exact ek (-m) λ c=>RV.ok (AV.int c) ⟨st',σ.fr⟩
theorem kP {f:Int->Int->RV->(Int->RV)->RV}{a b:EF}{m k c:Int}(hf:∀z (g:Int->RV),f m k z g=g c)(ha:EX O D X W env a 0 (.int m))(hb:EX O D X W env b 0 (.int k)):EX O D X W env (eS f a b) 0 (.int c):=λ σ R=>by
 refine bz (ha σ R) λ v st'1 h1 h2 z1_ _=>?_;subst z1_
 refine bz (hb _ (R.grow h2)) λ w st'2 h3 h4 z1_ _=>?_;subst z1_
 refine⟨_,st'2,?_,h2.trans h4,rfl,rfl⟩
 unfold eS
 rw[h1]
 show(b D ⟨st'1,σ.fr⟩).b _ _=_
 rw[h3]
 show f m k _ _=_
 rw[hf]
 exact ek c λ c=>RV.ok (AV.int c) ⟨st'2,σ.fr⟩
theorem et_k {f:Int->Int->Bool}{a b:EF}{m k:Int}(ha:EX O D X W env a 0 (.int m))(hb:EX O D X W env b 0 (.int k)):ET O D X W env (cK f a b) (f m k):=λ σ R=>by
 refine bz (ha σ R) λ v st'1 h1 h2 z1_ _=>?_;subst z1_
 refine bz (hb _ (R.grow h2)) λ w st'2 h3 h4 z1_ _=>?_;subst z1_
 refine⟨st'2,?_,h2.trans h4⟩
 unfold cK
 rw[h1]
 show(b D ⟨st'1,σ.fr⟩).b _ _=_
 rw[h3]
 rfl
theorem uv {t:TF}{b:Bool}(h:ET O D X W env t b):ET O D X W env (lx t) (!b):=λ σ R=>by
 refine aQ (h σ R) λ st' h1 h2=>?_
 refine⟨st',?_,h2⟩
 unfold lx
 rw[h1]
 rfl
theorem wj {a:EF}{b:Bool}(h:EX O D X W env a 0 (.bool b)):ET O D X W env (tE a) b:=λ σ R=>by
 refine bz (h σ R) λ v st' h1 h2 z1_ _=>?_;subst z1_
 refine⟨st',?_,h2⟩
 unfold tE
 rw[h1]
 rfl
theorem ij:ET O D X W env c8 true:=λ σ R=>⟨σ.st,rfl,ah _⟩
theorem ex_t {t:TF}{b:Bool}(h:ET O D X W env t b):EX O D X W env (cT t) 0 (.bool b):=λ σ R=>by
 refine aQ (h σ R) λ st' h1 h2=>?_
 refine⟨_,st',?_,h2,rfl,rfl⟩
 unfold cT
 rw[h1]
 rfl
theorem et_i {a:EF}{m:Int}(h:EX O D X W env a 0 (.int m)):ET O D X W env (tE a) (m != 0):=λ σ R=>by
 refine bz (h σ R) λ v st' h1 h2 z1_ _=>?_;subst z1_
 refine⟨st',?_,h2⟩
 unfold tE
 rw[h1]
 show Op.b (vd (.int m) _) _ _=_
 have:vd (.int m) st'=some (m != 0):=by
  cases m with
  |ofNat n=>cases n<;>rfl
  |negSucc n=>rfl
 rw[this]
 rfl
theorem ci:EA O D X W env aI []:=λ σ R=>⟨[],σ.st,rfl,ah _,.nil⟩
theorem bc {a:EF}{l:LF}{n:Nat}{V:Vl n}{ts:List j6}(ha:EX O D X W env a n V)(hl:EA O D X W env l ts):EA O D X W env (aq a l) (.mk n V::ts):=λ σ R=>by
 refine bR (ha σ R) λ v st'1 h1 h2 hu=>?_
 refine bR (hl _ (R.grow h2)) λ vs st'2 h3 h4 hus=>?_
 refine⟨v::vs,st'2,?_,h2.trans h4,.cons (U.pre h4 hu) hus⟩
 unfold aq
 rw[h1]
 show(l D ⟨st'1,σ.fr⟩).b _ _=_
 rw[h3]
 rfl
end
theorem cg {α β:Type}(f:α->β){l:List α}{n:Nat}(h:l.length<=n):(l.map f).length<=n:=by rw[aD];exact h
section
variable{O:ei}{D:Dn}{X W:Nat->Prop}{env:VE}{σ:AS}
theorem we (R:Rel O D X W env σ){p:Nat}(h:σ.st.length<=p):¬bl X W env p:=λ q=>aM _ (aN (R.lt p q) h)
theorem ii {st:List AO}{o:AO}:(st++[o])[st.length]? =some o:=by rw[az (Nat.le_refl _),Nat.sub_self];rfl
theorem U.new (R:Rel O D X W env σ){st:List AO}(h:σ.st<+:st){n:Nat}{xs:List (Vl n)}{vs:List AV}(u:Us st (bl X W env) n xs vs):U (st++[.list vs]) (bl X W env) (n+1) xs (.ref st.length):=
 ⟨st.length,vs,rfl,we R h.length_le,ii,u.pre (ai _ _)⟩
theorem v8 {st:List AO}{r k:Nat}{vs:List AV}{v:AV}{i:Int}(h1:st[r]? =some (.list vs))(hz:vs.length<=big)(h2:bE i vs.length=some k)(h3:vs[k]? =some v):rQ (.ref r) i st=some v:=by
 show(st[r]?).bind (idxO i)=_
 rw[h1]
 show(match Nat.ble vs.length big with|true=>(bE i vs.length).bind λ k=>vs[k]?|false=>none)=_
 rw[aF hz]
 show(bE i vs.length).bind _=_
 rw[h2]
 exact h3
theorem dU {a b:EF}{n:Nat}{xs:List (Vl n)}{i:Int}{k:Nat}{V:Vl n}(ha:EL O D X W env a n xs)(hb:EX O D X W env b 0 (.int i))(hz:xs.length<=1000)(hp:bE i xs.length=some k)(hk:xs[k]? =some V):EX O D X W env (bN a b) n V:=λ σ R=>by
 refine b5 (ha σ R) λ r vs st'1 h1 h2 hW h3 hu=>?_
 refine bz (hb _ (R.grow h2)) λ w st'2 h4 h5 z1_ _=>?_;subst z1_
 have hu':=hu.pre h5
 refine aQ (hu'.get hk) λ v hv u=>?_
 refine⟨v,st'2,?_,h2.trans h5,u⟩
 unfold bN
 rw[h1]
 show(b D ⟨st'1,σ.fr⟩).b _ _=_
 rw[h4]
 show Op.b (rQ (.ref r) i st'2) _ _=_
 rw[v8 (bZ h5 h3) (by rw[← hu.length];unfold big;exact gG hz) (by rw[← hu.length];exact hp) hv]
 rfl
theorem m_ {a:EF}{n:Nat}{xs:List (Vl n)}(ha:EL O D X W env a n xs)(hz:xs.length<=1000):EX O D X W env (aP dJ (aq a aI)) 0 (.int xs.length):=λ σ R=>by
 refine b5 (ha σ R) λ r vs st'1 h1 h2 hW h3 hu=>?_
 refine⟨_,st'1,?_,h2,rfl,rfl⟩
 unfold aP aq
 rw[h1]
 show dJ D [.ref r] ⟨st'1,σ.fr⟩=_
 unfold dJ
 have:vW (.ref r) st'1=some (.ofNat xs.length):=by
  show(st'1[r]?).bind yC=_
  rw[h3]
  show(match Nat.ble vs.length big with|true=>some (Int.ofNat vs.length)|false=>none)=_
  rw[hu.length,aF (by rw[← hu.length];unfold big;exact gG hz)]
 dsimp only
 rw[this]
 exact ek (Int.ofNat xs.length) λ c=>RV.ok (AV.int c) ⟨st'1,σ.fr⟩
theorem kW {l:LF}{n:Nat}:∀{xs:List (Vl n)} {st:List AO} {F:Nat->Prop} {vs:List AV},Fa2 (UA st F) (xs.map (.mk n)) vs->Us st F n xs vs
 |[],_,_,_,h=>by cases h;exact .nil
 |x::xs,_,_,_,h=>by
  cases h with
  |cons a r=>exact .cons a (kW (l:=l) r)
theorem g7 {l:LF}{n:Nat}{xs:List (Vl n)}(h:EA O D X W env l (xs.map (.mk n)))(hz:xs.length<=1000):EX O D X W env (dj l) (n+1) xs:=λ σ R=>by
 refine bR (h σ R) λ vs st'1 h1 h2 hu=>?_
 have hu:=kW (l:=l) hu
 refine⟨_,_,?_,h2.trans (ai _ [.list vs]),U.new R h2 hu⟩
 unfold dj
 rw[h1]
 show bb (Nat.ble vs.length big) _ _=_
 rw[aF (by rw[← hu.length];unfold big;exact gG hz)]
 rfl
theorem kO {a b:EF}{n:Nat}{xs ys:List (Vl n)}(ha:EL O D X W env a n xs)(hb:EL O D X W env b n ys)(hz:xs.length+ys.length<=1000):EX O D X W env (jR a b) (n+1) (xs++ys:List (Vl n)):=λ σ R=>by
 refine b5 (ha σ R) λ r vs st'1 h1 h2 hW h3 hu=>?_
 refine b5 (hb _ (R.grow h2)) λ q ws st'2 h4 h5 hW2 h6 hu2=>?_
 have hu':=hu.pre h5
 refine⟨_,_,?_,(h2.trans h5).trans (ai _ [.list (vs++ws)]),U.new R (h2.trans h5) (hu'.append hu2)⟩
 unfold jR
 rw[h1]
 show(b D ⟨st'1,σ.fr⟩).b _ _=_
 rw[h4]
 show Op.b (wG (.ref r) (.ref q) st'2) _ _=_
 have:wG (.ref r) (.ref q) st'2=some (vs++ws):=by
  show(st'2[r]?).bind (λ o=>(st'2[q]?).bind (catO o))=_
  rw[bZ h5 h3,h6]
  show(match Nat.ble (vs.length+ws.length) big with|true=>some (vs++ws)|false=>none)=_
  rw[aF (by rw[← hu.length,← hu2.length];unfold big;exact ω105 hz)]
 rw[this]
 rfl
theorem gk {st:List AO}{r:Nat}{vs:List AV}(h3:st[r]? =some (.list vs))(hz:vs.length<=1000):mU (.ref r) st=some (r,vs):=by
 show xE r st none _=_
 rw[t6 h3,aF (by unfold big;exact gG hz)]
 rfl
theorem yZ {a:EF}{bs:List Bool}(hn:D.hn=true)(ha:EL O D X W env a 0 (bs.map .bool))(hz:bs.length<=1000):EX O D X W env (aP pQ (aq a aI)) 0 (.bool (bs.all id)):=λ σ R=>by
 refine b5 (ha σ R) λ r vs st'1 h1 h2 hW h3 hu=>?_
 refine eA (Us.flat hu) λ z1_ _=>?_;subst z1_
 refine⟨_,st'1,?_,h2,rfl,rfl⟩
 unfold aP aq
 rw[h1]
 show pQ D [.ref r] ⟨st'1,σ.fr⟩=_
 unfold pQ
 dsimp only
 rw[hn,gk h3 (cg _ hz)]
 show Op.b (jw (bs.map .bool)) _ _=_
 rw[ld]
 rfl
theorem lY (i:Int):∀ns:List Int,rR (ns.map .int) (.int i)=some (ns.contains i)
 |[]=>rfl
 |n::ns=>by
  show Op.b (wn (.int n) (.int i)) none (λ b=>Op.b (rR (ns.map .int) (.int i)) none λ c=>some (b||c))=_
  have:wn (.int n) (.int i)=some (n == i):=rfl
  rw[this,lY i ns,List.contains_cons]
  show some ((n == i)||_)=_
  rw[show(n == i)=(i == n)from Bool.eq_iff_iff.mpr ⟨λ h=>beq_iff_eq.mpr (beq_iff_eq.mp h).symm,λ h=>beq_iff_eq.mpr (beq_iff_eq.mp h).symm⟩]
theorem kM {st:List AO}{r:Nat}{ns:List Int}(h:st[r]? =some (.list (ns.map .int)))(hz:ns.length<=1000):uo (.ref r) st=some (ns.map .int):=by
 refine(t6 h).trans ?_
 have h1:lj (ns.map AV.int)=true:=by
  clear h hz
  induction ns with
  |nil=>rfl
  |cons n ns ih=>exact ih
 rw[h1]
 rfl
theorem xL {neg:Bool}{a b:EF}{i:Int}{ns:List Int}(ha:EX O D X W env a 0 (.int i))(hb:EL O D X W env b 0 (ns.map .int))(hz:ns.length<=1000):ET O D X W env (nA neg a b) (xor neg (ns.contains i)):=λ σ R=>by
 refine bz (ha σ R) λ v st'1 h1 h2 z1_ _=>?_;subst z1_
 refine b5 (hb _ (R.grow h2)) λ q ws st'2 h4 h5 hW2 h6 hu2=>?_
 refine eA (Us.flat hu2) λ z1_ _=>?_;subst z1_
 refine⟨st'2,?_,h2.trans h5⟩
 unfold nA
 rw[h1]
 show(b D ⟨st'1,σ.fr⟩).b _ _=_
 rw[h4]
 show Op.b (uo (.ref q) st'2) _ _=_
 rw[kM h6 hz]
 show Op.b (rR (ns.map .int) (.int i)) _ _=_
 rw[lY]
 rfl
theorem j7:∀ns:List Int,jg (ns.map .int)=some ns
 |[]=>rfl
 |n::ns=>by
  show Op.b (jg (ns.map .int)) none (λ r=>some (n::r))=_
  rw[j7 ns];rfl
end
section
variable{O:ei}{D:Dn}{X W:Nat->Prop}{env:VE}{σ:AS}
noncomputable def KW (W:Nat->Prop)(st st':List AO):Prop:=st.length<=st'.length/\∀p,p<st.length->¬W p->st'[p]? =st[p]?
theorem KW.refl (W:Nat->Prop)(st:List AO):KW W st st:=⟨Nat.le_refl _,λ _ _ _=>rfl⟩
theorem KW.trans {W:Nat->Prop}{a b c:List AO}(h:KW W a b)(k:KW W b c):KW W a c:=⟨Nat.le_trans h.1 k.1,λ p hp hw=>(k.2 p (aN hp h.1) hw).trans (h.2 p hp hw)⟩
theorem KW.pre {W:Nat->Prop}{a b:List AO}(h:a<+:b):KW W a b:=⟨h.length_le,λ p hp _=>by rw[ae hp];exact bZ h (ae hp)⟩
theorem KW.at' {W:Nat->Prop}{a b:List AO}(h:KW W a b){p:Nat}{o:AO}(e:a[p]? =some o)(hw:¬W p):b[p]? =some o:=(h.2 p (aa.mp e).1 hw).trans e
theorem U.kw {st st':List AO}{F M:Nat->Prop}(h:KW M st st')(hm:∀p,M p->F p){n:Nat}{V:Vl n}{v:AV}(u:U st F n V v):U st' F n V v:=u.mono λ p o e k=>⟨h.at' e λ q=>k (hm p q),k⟩
theorem Us.kw {st st':List AO}{F M:Nat->Prop}(h:KW M st st')(hm:∀p,M p->F p){n:Nat}{V:List (Vl n)}{v:List AV}(u:Us st F n V v):Us st' F n V v:=u.mono λ _ _=>U.kw h hm
theorem d_ {p:Nat}(h:W p):bl X W env p:=.inr (.inl h)
theorem iJ {cs:List (Option Nat)}{i j:Nat}{v:AV}(σ:AS)(hl:∀k,cs[i]?≠some (some k))(hi:i<σ.fr.length):bG cs ⟨σ.st,σ.fr.set i (some v)⟩ j=if i=j then some v else bG cs σ j:=by
 unfold bG
 by_cases h:i=j
 ·subst h
  rw[if_pos rfl]
  cases q:cs[i]? with
  |none=>dsimp only;rw[aH hi]
  |some z=>
   cases z with
   |none=>dsimp only;rw[aH hi]
   |some k=>exact absurd q (hl k)
 ·rw[if_neg h]
  dsimp only
  rw[ak h]
theorem ck {i n:Nat}{V:Vl n}{p:Nat}(h:bl X W (env.set i (some (.val n V))) p):bl X W env p:=by
 rcases h with h|h|⟨j,w,e,h⟩
 ·exact .inl h
 ·exact .inr (.inl h)
 ·by_cases q:i=j
  ·subst q
   have hi:i<env.length:=by have:=(aa.mp e).1;simpa using this
   rw[aH hi]at e
   cases e
   cases h
  ·rw[ak q]at e
   exact .inr (.inr ⟨j,w,e,h⟩)
theorem bD {i j:Nat}{w w':Option VV}(e:(env.set i w)[j]? =some w'):(i=j/\w'=w)∨(i≠j/\env[j]? =some w'):=by
 by_cases q:i=j
 ·subst q
  have hi:i<env.length:=by have:=(aa.mp e).1;simpa using this
  rw[aH hi]at e
  exact .inl ⟨rfl,(aj e).symm⟩
 ·rw[ak q]at e
  exact .inr ⟨q,e⟩
theorem Rel.set (R:Rel O D X W env σ){i:Nat}(hi:i<env.length)(hw:∀k,D.cs[i]? =some (some k)->W k){n:Nat}{V:Vl n}{v:AV}(u:U σ.st (bl X W env) n V v):
  ∃σ',gV i D v σ= .ok σ'/\Rel O D X W (env.set i (some (.val n V))) σ'/\KW W σ.st σ'.st/\σ'.st.length=σ.st.length/\∀(p:Nat) (o:AO),σ.st[p]? =some o->(∀z,o≠AO.cell z)->σ'.st[p]? =some o:=by
 have hdis:∀(j:Nat) (w:VV) (p:Nat),(env.set i (some (.val n V)))[j]? =some (some w)->p∈pl w->¬X p/\¬W p/\∀(l:Nat) (w':VV),(env.set i (some (.val n V)))[l]? =some (some w')->p∈pl w'->j=l:=by
  intro j w p e hp
  rcases bD e with⟨_,q⟩|⟨hj,e⟩
  ·cases q;cases hp
  ·refine fT (R.dis j w p e hp) λ a b c=>?_
   refine⟨a,b,λ l w' e' hp'=>?_⟩
   rcases bD e' with⟨_,q⟩|⟨hl,e'⟩
   ·cases q;cases hp'
   ·exact c l w' e' hp'
 have local':(∀k,D.cs[i]?≠some (some k))->Rel O D X W (env.set i (some (.val n V))) ⟨σ.st,cr σ.fr i (some v)⟩:=λ hl=>by
  rw[bw]
  refine⟨by simpa using R.len,λ p hp=>R.lt p (ck hp),R.xw,hdis,R.cel,R.cnd,R.csx,λ j w e=>?_⟩
  rw[iJ σ hl (aN hi R.len)]
  rcases bD e with⟨rfl,q⟩|⟨hj,e⟩
  ·cases q
   rw[if_pos rfl]
   exact⟨v,rfl,u.mono λ p o e k=>⟨e,λ q=>k (ck q)⟩⟩
  ·rw[if_neg hj]
   refine aQ (R.at' j w e) λ x h1 h2=>?_
   exact⟨x,h1,h2.mono (λ p o e k=>⟨e,λ q=>k (ck q)⟩) (λ p hp=>rfl) λ p hp=>⟨hp,rfl⟩⟩
 unfold gV
 rw[aS]
 cases q:D.cs[i]? with
 |none=>exact⟨_,rfl,local' (λ k e=>by rw[q]at e;cases e),KW.refl _ _,rfl,λ p o e _=>e⟩
 |some z=>
  cases z with
  |none=>exact⟨_,rfl,local' (λ k e=>by rw[q]at e;cases e),KW.refl _ _,rfl,λ p o e _=>e⟩
  |some k=>
   have hk:=hw k q
   refine eE (R.cel i k q hk) λ z hz=>?_
   have hne:∀(p:Nat),¬W p->(σ.st.set k (.cell (some v)))[p]? =σ.st[p]? :=λ p hp=>ak λ e=>hp (by rw[← e];exact hk)
   refine⟨⟨σ.st.set k (.cell (some v)),σ.fr⟩,?_,?_,⟨by simp,λ p _ hp=>hne p hp⟩,by simp,λ p o e ho=>?_⟩
   ·show nR k v σ=_
    unfold nR
    rw[aS,hz]
    show RU.ok ⟨cr σ.st k _,_⟩=_
    rw[bw]
   ·refine⟨by simpa using R.len,λ p hp=>by simpa using R.lt p (ck hp),R.xw,hdis,λ j k' e hk'=>?_,R.cnd,R.csx,λ j w e=>?_⟩
    ·by_cases hkk:k=k'
     ·subst hkk
      exact⟨_,aH (aa.mp hz).1⟩
     ·rw[ak hkk]
      exact R.cel j k' e hk'
    ·rcases bD e with⟨rfl,q2⟩|⟨hj,e⟩
     ·cases q2
      refine⟨v,?_,u.mono λ p o e h=>⟨(hne p λ w=>h (d_ w)).trans e,λ q=>h (ck q)⟩⟩
      unfold bG
      rw[q]
      dsimp only
      rw[aH (aa.mp hz).1]
     ·refine aQ (R.at' j w e) λ x h1 h2=>?_
      refine⟨x,?_,h2.mono (λ p o e h=>⟨(hne p λ w=>h (d_ w)).trans e,λ q=>h (ck q)⟩) (λ p hp=>hne p (R.dis j w p e hp).2.1) λ p hp=>⟨hp,hne p (R.xw p hp)⟩⟩
      unfold bG at h1 ⊢
      cases q3:D.cs[j]? with
      |none=>rw[q3]at h1;exact h1
      |some z3=>
       rw[q3]at h1
       cases z3 with
       |none=>exact h1
       |some k3=>
        have:k≠k3:=λ e3=>hj (R.cnd i j k q (by rw[e3];exact q3) hk)
        dsimp only at h1 ⊢
        rw[ak this]
        exact h1
   ·have hkp:k≠p:=λ e2=>by rw[e2]at hz;rw[hz]at e;cases e;exact ho _ rfl
    rw[ak hkp]
    exact e
theorem Rel.upW (R:Rel O D X W env σ){a:Nat}(ha:W a){o:AO}(h0:∃o':AO,σ.st[a]? =some o'/\∀z,o'≠AO.cell z):Rel O D X W env ⟨σ.st.set a o,σ.fr⟩:=by
 refine aQ h0 λ o' h0 hc=>?_
 have hne:∀(p:Nat),¬W p->(σ.st.set a o)[p]? =σ.st[p]? :=λ p hp=>ak λ e=>hp (by rw[← e];exact ha)
 refine⟨R.len,λ p hp=>by simpa using R.lt p hp,R.xw,R.dis,λ i k e w=>?_,R.cnd,R.csx,λ i w e=>?_⟩
 ·refine eE (R.cel i k e w) λ z hz=>?_
  have:a≠k:=λ e2=>by rw[e2,hz]at h0;cases h0;exact hc _ rfl
  exact⟨z,by rw[ak this];exact hz⟩
 ·refine aQ (R.at' i w e) λ v h1 h2=>?_
  refine⟨v,?_,h2.mono (λ p o e k=>⟨(hne p λ w=>k (d_ w)).trans e,k⟩) (λ p hp=>hne p (R.dis i w p e hp).2.1) λ p hp=>⟨hp,hne p (R.xw p hp)⟩⟩
  unfold bG at h1 ⊢
  cases q3:D.cs[i]? with
  |none=>rw[q3]at h1;exact h1
  |some z3=>
   rw[q3]at h1
   cases z3 with
   |none=>exact h1
   |some k3=>
    dsimp only at h1 ⊢
    by_cases hk:a=k3
    ·subst hk
     rw[h0]at h1
     cases o' with
     |cell z=>exact absurd rfl (hc z)
     |_=>cases h1
    ·rw[ak hk]
     exact h1
theorem Rel.forget {i n:Nat}{V:Vl n}(h0:env[i]? =some none)(R:Rel O D X W (env.set i (some (.val n V))) σ):Rel O D X W env σ:=by
 have hi:=(aa.mp h0).1
 have sub:∀(j:Nat) (w:VV),env[j]? =some (some w)->(env.set i (some (.val n V)))[j]? =some (some w):=λ j w e=>by
  rw[ak (λ q=>by rw[← q,h0]at e;cases e)]
  exact e
 have ft:∀p,bl X W env p->bl X W (env.set i (some (.val n V))) p:=λ p h=>by
  rcases h with h|h|⟨j,w,e,h⟩
  ·exact .inl h
  ·exact .inr (.inl h)
  ·exact .inr (.inr ⟨j,w,sub j w e,h⟩)
 refine⟨by simpa using R.len,λ p hp=>R.lt p (ft p hp),R.xw,λ j w p e hp=>?_,R.cel,R.cnd,R.csx,λ j w e=>?_⟩
 ·refine fT (R.dis j w p (sub j w e) hp) λ a b c=>?_
  exact⟨a,b,λ l w' e'=>c l w' (sub l w' e')⟩
 ·refine aQ (R.at' j w (sub j w e)) λ v h1 h2=>?_
  exact⟨v,h1,h2.mono (λ p o e k=>⟨e,λ q=>k (ft p q)⟩) (λ _ _=>rfl) λ p hp=>⟨hp,rfl⟩⟩
theorem vX {st:List AO}{F:Nat->Prop}{n k:Nat}{xs:List (Vl n)}{V:Vl n}{z:Option AV}{v:AV}(h:xs[k]? =some V)(e:z=some v)(u:U st F n V v):match xs[k]? with
  |none=>z=none
  |some V=>∃v,z=some v/\U st F n V v:=by rw[h];exact⟨v,e,u⟩
theorem vY {st:List AO}{F:Nat->Prop}{n k:Nat}{xs:List (Vl n)}{z:Option AV}(h:xs[k]? =none)(e:z=none):match xs[k]? with
  |none=>z=none
  |some V=>∃v,z=some v/\U st F n V v:=by rw[h];exact e
noncomputable def ItOk (st:List AO)(F M:Nat->Prop)(n:Nat)(xs:List (Vl n))(it:IT):Prop:=
 ∃zs:Nat->Option AV,(∀st',KW M st st'->∀k,b7 it k st'=some (zs k))/\∀k,match xs[k]? with
  |none=>zs k=none
  |some V=>∃v,zs k=some v/\U st F n V v
theorem ItOk.map {st st':List AO}{F M F' M':Nat->Prop}{n:Nat}{xs:List (Vl n)}{it:IT}(h:ItOk st F M n xs it)(k:∀st2,KW M' st' st2->KW M st st2)(u:∀(V:Vl n) v,U st F n V v->U st' F' n V v):ItOk st' F' M' n xs it:=by
 refine aQ h λ zs h1 h2=>?_
 refine⟨zs,λ st2 k2=>h1 st2 (k st2 k2),λ i=>?_⟩
 have:=h2 i
 split at this
 ·exact this
 ·rename_i V q;refine aQ this λ v e hu=>?_;exact⟨v,e,u V v hu⟩
theorem ItOk.kw {st st':List AO}{F M:Nat->Prop}{n:Nat}{xs:List (Vl n)}{it:IT}(hm:∀p,M p->F p)(h:ItOk st F M n xs it)(k:KW M st st'):ItOk st' F M n xs it:=h.map (λ st2 k2=>k.trans k2) λ V v u=>u.kw k hm
noncomputable def EI (O:ei)(D:Dn)(X W M:Nat->Prop)(env:VE)(a:EF)(n:Nat)(xs:List (Vl n)):Prop:=
 ∀σ,Rel O D X W env σ->∃x st' it,a D σ= .ok x ⟨st',σ.fr⟩/\σ.st<+:st'/\cF D.kt x st'=some it/\ItOk st' (bl X W env) M n xs it
theorem xG {st:List AO}{F M:Nat->Prop}{n:Nat}{xs:List (Vl n)}{r:Nat}{vs:List AV}(hr:¬M r)(h:st[r]? =some (.list vs))(u:Us st F n xs vs):ItOk st F M n xs (.li r):=by
 refine⟨λ i=>vs[i]?,λ st' k i=>?_,λ i=>?_⟩
 ·rw[mL (k.at' h hr)]
 ·cases q:xs[i]? with
  |none=>
   have:=aK.mp q
   exact aK.mpr (by rw[← u.length];exact this)
  |some V=>
   refine aQ (u.get q) λ v hv huv=>?_
   exact⟨v,hv,huv⟩
theorem wq {a:EF}{n:Nat}{xs:List (Vl n)}(h:EL O D X W env a n xs):EI O D X W W env a n xs:=λ σ R=>by
 refine b5 (h σ R) λ r vs st' h1 h2 hW h3 hu=>?_
 refine⟨_,st',.li r,h1,h2,?_,xG hW h3 hu⟩
 exact gn (h3)
theorem nh {a:EF}{n:Nat}{xs:List (Vl n)}(h:EX O D X W env a (n+1) xs):EI O D X W (bl X W env) env a n xs:=λ σ R=>by
 refine kZ (h σ R) λ v st' h1 h2 r vs z1_ h3 h4 h5=>?_;subst z1_
 refine⟨_,st',.li r,h1,h2,?_,xG h3 h4 h5⟩
 exact gn (h4)
theorem lX {st:List AO}{F:Nat->Prop}:∀{ts:List Int} {vs:List AV},Fa2 (UA st F) (ts.map λ i=>j6.mk 0 (.int i)) vs->vs=ts.map .int
 |[],_,h=>by cases h;rfl
 |t::ts,_,h=>by
  cases h with
  |cons x y=>refine eA x λ z1_ _=>?_;clear x;subst z1_;rw[lX y];rfl
theorem fC {l:LF}{M:Nat->Prop}{ts:List Int}{a b c:Int}{n:Nat}(h:EA O D X W env l (ts.map λ i=>.mk 0 (.int i)))(h1:pf (ts.map .int)=some (.range a b c))(h2:Builtin.Range.small a b c=true)(h3:(Builtin.Range.rangeSize a b c).toNat=n):
  EI O D X W M env (aP bH l) 0 ((List.range n).map λ k:Nat=>AV.int (a+(k:Int)*c)):=λ σ R=>by
 refine bR (h σ R) λ vs st' e1 e2 hu=>?_
 have hvs:vs=ts.map .int:=lX hu
 subst hvs
 refine⟨.ref st'.length,st'++[.range a b c],.rg a c n,?_,e2.trans (ai _ _),?_,λ i=>if i<n then some (.int (a+(i:Int)*c))else none,λ st2 _ i=>?_,λ i=>?_⟩
 ·unfold aP
  rw[e1]
  show bH D (ts.map .int) ⟨st',σ.fr⟩=_
  unfold bH
  rw[h1]
  rfl
 ·rw[gn ii]
  show bb _ _ _=_
  rw[h2,h3]
  rfl
 ·unfold b7
  dsimp only
  by_cases hi:i<n
  ·have e5:Nat.ble n i=false:=by
    cases q:Nat.ble n i with
    |false=>rfl
    |true=>exact absurd (aO q) (Nat.not_le.mpr hi)
   rw[e5,if_pos hi]
   exact ek (a+(Int.ofNat i)*c) λ i=>some (some (AV.int i))
  ·rw[aF (Nat.le_of_not_lt hi),if_neg hi]
   rfl
 ·by_cases hi:i<n
  ·have e6:((List.range n).map λ k:Nat=>AV.int (a+(k:Int)*c))[i]? =some (AV.int (a+(i:Int)*c)):=by rw[aB,List.getElem?_range hi];rfl
   exact vX e6 (if_pos hi) ⟨rfl,rfl⟩
  ·have e6:((List.range n).map λ k:Nat=>AV.int (a+(k:Int)*c))[i]? =none:=by rw[aB,aK.mpr (by simpa using Nat.le_of_not_lt hi)];rfl
   exact vY e6 (if_neg hi)
end
section
variable{O:ei}{D:Dn}{X W:Nat->Prop}{env:VE}{σ:AS}
noncomputable def BS (O:ei)(D:Dn)(X W:Nat->Prop)(acc:Nat)(env:VE)(body:Dn->AS->RU)(n:Nat)(Vs:List (Vl n)):Prop:=
 ∀σ vs,Rel O D X W env σ->σ.st[acc]? =some (.list vs)->vs.length+Vs.length<=1000->∃σ' ws,body D σ= .ok σ'/\Rel O D X W env σ'/\σ'.st[acc]? =some (.list (vs++ws))/\Us σ'.st (bl X W env) n Vs ws/\KW W σ.st σ'.st
theorem pC {i n:Nat}{V:Vl n}(h0:env[i]? =some none){p:Nat}(h:bl X W env p):bl X W (env.set i (some (.val n V))) p:=by
 rcases h with h|h|⟨j,w,e,h⟩
 ·exact .inl h
 ·exact .inr (.inl h)
 ·exact .inr (.inr ⟨j,w,by rw[ak (λ q=>by rw[← q,h0]at e;cases e)];exact e,h⟩)
theorem q9 {e:EF}{acc n:Nat}{V:Vl n}(ha:W acc)(h:EX O D X W env e n V):BS O D X W acc env (qP e acc) n [V]:=λ σ vs R h0 hz=>by
 refine bR (h σ R) λ v st' h1 h2 hu=>?_
 have h3:=bZ h2 h0
 have k2:KW W st' (st'.set acc (.list (vs++[v]))):=⟨by simp,λ p _ hp=>ak λ e=>hp (by rw[← e];exact ha)⟩
 refine⟨⟨st'.set acc (.list (vs++[v])),σ.fr⟩,[v],?_,(R.grow h2).upW ha ⟨_,h3,nofun⟩,aH (aa.mp h3).1,.cons (hu.kw k2 λ p=>d_) .nil,(KW.pre h2).trans k2⟩
 unfold qP
 rw[h1]
 show Op.b (cy st' acc) _ _=_
 rw[aS,h3]
 show bb (Nat.ble vs.length big) _ _=_
 rw[aF (by unfold big;simp at hz;exact ω111 hz)]
 show RU.ok ⟨cr st' acc _,_⟩=_
 rw[bw]
theorem ik {acc ti m n:Nat}{ifs:TF}{body:Dn->AS->RU}(hti:env[ti]? =some none)(hw:∀k,D.cs[ti]? =some (some k)->W k)(ha:W acc){xs:List (Vl n)}{f:Vl n->List (Vl m)}
  (hx:∀x∈xs,∃b,ET O D X W (env.set ti (some (.val n x))) ifs b/\(b=true->BS O D X W acc (env.set ti (some (.val n x))) body m (f x))/\(b=false->f x=[])) {it:IT}:
  ∀(ys:List (Vl n)) (k fuel:Nat) (σ:AS) (vs:List AV),xs.drop k=ys->ys.length<fuel->Rel O D X W env σ->ItOk σ.st (bl X W env) W n xs it->σ.st[acc]? =some (.list vs)->vs.length+(ys.flatMap f).length<=1000->
   ∃σ' ws,eP fuel (gV ti) ifs body D it k σ= .ok σ'/\Rel O D X W env σ'/\σ'.st[acc]? =some (.list (vs++ws))/\Us σ'.st (bl X W env) m (ys.flatMap f) ws/\KW W σ.st σ'.st
 |[],k,0,_,_,_,hf,_,_,_,_=>absurd hf (aM _)
 |[],k,fuel+1,σ,vs,hd,_,R,I,h0,_=>by
  refine aQ I λ zs h1 h2=>?_
  have hk:xs[k]? =none:=aK.mpr (List.drop_eq_nil_iff.mp hd)
  have h3:=h2 k
  rw[hk]at h3
  refine⟨σ,[],?_,R,by rw[List.append_nil];exact h0,.nil,KW.refl _ _⟩
  show Op.b (b7 it k σ.st) _ _=_
  rw[h1 σ.st (KW.refl _ _) k]
  dsimp only at h3
  rw[h3]
  rfl
 |y::ys,k,0,_,_,_,hf,_,_,_,_=>absurd hf (bK _)
 |y::ys,k,fuel+1,σ,vs,hd,hf,R,I,h0,hz=>by
  have I':=I
  refine aQ I' λ zs h1 h2=>?_
  have hlt:k<xs.length:=by
   apply Nat.lt_of_not_le
   intro q
   rw[List.drop_eq_nil_iff.mpr q]at hd
   cases hd
  rw[List.drop_eq_getElem_cons hlt]at hd
  refine eA (List.cons.inj hd) λ hy hd=>?_
  have hk:xs[k]? =some y:=by rw[ae hlt,hy]
  have h3:=h2 k
  rw[hk]at h3
  refine aQ h3 λ v hv hu=>?_
  have hi:=(aa.mp hti).1
  refine iM (R.set hi hw hu) λ σ1 e1 R'1 k1 l1 c1=>?_
  refine bW (hx y (by rw[← hy];exact List.getElem_mem _)) λ b ht hb1 hb2=>?_
  refine aQ (ht σ1 R'1) λ st'2 e2 p2=>?_
  have R'2:=R'1.grow p2
  have h4:st'2[acc]? =some (.list vs):=bZ p2 (c1 _ _ h0 nofun)
  have k2:KW W σ.st st'2:=k1.trans (KW.pre p2)
  rw[List.flatMap_cons]at hz ⊢
  rw[aU]at hz
  have unf:eP (fuel+1) (gV ti) ifs body D it k σ=bb b ((body D ⟨st'2,σ1.fr⟩).b .no (eP fuel (gV ti) ifs body D it (Nat.succ k))) (eP fuel (gV ti) ifs body D it (Nat.succ k) ⟨st'2,σ1.fr⟩):=by
   show Op.b (b7 it k σ.st) _ _=_
   rw[h1 σ.st (KW.refl _ _) k,hv]
   show(gV ti D v σ).b _ _=_
   rw[e1]
   show(ifs D σ1).b _ _=_
   rw[e2]
   rfl
  rw[unf]
  cases b with
  |false=>
   rw[hb2 rfl]at hz ⊢
   refine dF (ik hti hw ha hx ys (k+1) fuel ⟨st'2,σ1.fr⟩ vs hd (bu hf) (R'2.forget hti) (I.kw (λ p=>d_) k2) h4 (by simpa using hz)) λ σ' ws g1 g2 g3 g4 g5=>?_
   exact⟨σ',ws,g1,g2,g3,g4,k2.trans g5⟩
  |true=>
   refine dF (hb1 rfl ⟨st'2,σ1.fr⟩ vs R'2 h4 (by exact ω108 hz)) λ σ3 w1 a1 a2 a3 a4 a5=>?_
   have k3:=k2.trans a5
   have hwl:=a4.length
   refine dF (ik hti hw ha hx ys (k+1) fuel σ3 (vs++w1) hd (bu hf) (a2.forget hti) (I.kw (λ p=>d_) k3) a3 (by rw[aU,← hwl];exact ω109 hz)) λ σ' ws g1 g2 g3 g4 g5=>?_
   refine⟨σ',w1++ws,?_,g2,by rw[← aR];exact g3,Fa2.append ?_ g4,k3.trans g5⟩
   ·show(body D ⟨st'2,σ1.fr⟩).b _ _=_
    rw[a1]
    exact g1
   ·exact Us.kw g5 (λ p=>d_) (a4.mono λ V v=>U.mono λ p o e q=>⟨e,λ z=>q (pC hti z)⟩)
theorem r8 {fuel acc ti m n:Nat}{it ex:EF}{ifs:TF}{cls:List CL}(hti:env[ti]? =some none)(hw:∀k,D.cs[ti]? =some (some k)->W k)(ha:W acc){xs:List (Vl n)}{f:Vl n->List (Vl m)}(hi:EI O D X W W env it n xs)(hz:xs.length<fuel)
  (hx:∀x∈xs,∃b,ET O D X W (env.set ti (some (.val n x))) ifs b/\(b=true->BS O D X W acc (env.set ti (some (.val n x))) (hJ fuel ex acc cls) m (f x))/\(b=false->f x=[])):
  BS O D X W acc env (hJ fuel ex acc (⟨gV ti,it,ifs⟩::cls)) m (xs.flatMap f):=λ σ vs R h0 hl=>by
 refine eI (hi σ R) λ x st' I h1 h2 h3 h4=>?_
 refine dF (ik hti hw ha hx xs 0 fuel ⟨st',σ.fr⟩ vs rfl hz (R.grow h2) h4 (bZ h2 h0) hl) λ σ' ws g1 g2 g3 g4 g5=>?_
 refine⟨σ',ws,?_,g2,g3,g4,(KW.pre h2).trans g5⟩
 show(it D σ).b _ _=_
 rw[h1]
 show Op.b (cF D.kt x st') _ _=_
 rw[h3]
 exact g1
noncomputable def rdv:VV->Option VV
 |.val n V=>some (.val n V)
 |.own r n xs=>some (.rdo r n xs)
 |.rdo r n xs=>some (.rdo r n xs)
 |.obj _ _ _=>none
noncomputable def iq (vk:List VK)(env:VE):VE:=vk.map λ v=>match v with
 |.old i=>match env[i]? with
  |some (some w)=>rdv w
  |_=>none
 |_=>none
noncomputable def sC (vk:List VK)(nv nc ti:Nat):Bool:=
 decide (vk.length<=nv) && decide (ti<vk.length) && (match vk[ti]? with|some (.old _)=>false|_=>true) && vk.all (λ v=>match v with|.new j=>decide (j<nc)|_=>true) &&
 (List.range vk.length).all λ i=>(List.range vk.length).all λ j=>match vk[i]?,vk[j]? with|some (.new a),some (.new b)=>!(a == b)||(i == j)|_,_=>true
theorem ox:∀{vk:List VK} {cs:List (Option Nat)} {b:Nat} {r:List (Option Nat)},fo vk cs b=some r->∀{i j:Nat},vk[i]? =some (.old j)->∃k,cs[j]? =some (some k)/\r[i]? =some (some k)
 |[],_,_,_,_,_,_,e=>by cases e
 |v::vk,cs,b,r,h,i,j,e=>by
  refine Op.elim (show Op.b (fo vk cs b) none _=some r from h) λ r' h1 h2=>?_
  cases i with
  |zero=>
   cases e
   refine Op.elim (show Op.b (cy cs j) none _=some r from h2) λ o h3 h4=>?_
   refine Op.elim h4 λ k h5 h6=>?_
   cases h6
   rw[aS]at h3
   exact⟨k,by rw[h3,h5],rfl⟩
  |succ i=>
   refine aQ (ox h1 (i:=i) e) λ k h3 h4=>?_
   refine⟨k,h3,?_⟩
   cases v with
   |loc=>cases h2;exact h4
   |new l=>cases h2;exact h4
   |old l=>
    refine Op.elim (show Op.b (cy cs l) none _=some r from h2) λ o h5 h6=>?_
    refine Op.elim h6 λ k' h7 h8=>?_
    cases h8
    exact h4
theorem mJ {a b:List AO}(hl:a.length<=b.length)(h:∀p,p<a.length->b[p]? =a[p]?):a<+:b:=by
 refine⟨b.drop a.length,?_⟩
 apply List.ext_getElem?
 intro i
 by_cases hi:i<a.length
 ·rw[aL hi,h i hi]
 ·rw[az (Nat.le_of_not_lt hi),List.getElem?_drop]
  congr 1
  exact ω110 hi
end
section
variable{O:ei}{D:Dn}{X W:Nat->Prop}{env:VE}{σ:AS}
noncomputable def WI (L nc p:Nat):Prop:=L<=p/\p<=L+nc
theorem kS {vk:List VK}{i:Nat}{w:VV}(h:(iq vk env)[i]? =some (some w)):∃j w',vk[i]? =some (.old j)/\env[j]? =some (some w')/\rdv w'=some w:=by
 unfold iq at h
 rw[aB]at h
 cases q:vk[i]? with
 |none=>rw[q]at h;cases h
 |some v=>
  rw[q]at h
  cases v with
  |loc=>cases h
  |new j=>cases h
  |old j=>
   have h:(match env[j]? with|some (some w)=>rdv w|_=>none)=some w:=aj h
   cases e:env[j]? with
   |none=>rw[e]at h;cases h
   |some y=>
    rw[e]at h
    cases y with
    |none=>cases h
    |some w'=>exact⟨j,w',rfl,e,h⟩
theorem tF {w w':VV}(h:rdv w'=some w):pl w=[]:=by
 cases w'<;>cases h<;>rfl
theorem tB {vk:List VK}{nv nc ti L:Nat}{cs':List (Option Nat)}(R:Rel O D X W env σ)(hv:sC vk nv nc ti=true)(hL:L=σ.st.length)(hc:fo vk D.cs (L+1)=some cs'):
  Rel O ⟨cs',D.d,D.hn,D.kt⟩ (bl X W env) (WI L nc) (iq vk env) ⟨σ.st++[.list []]++List.replicate nc (.cell none),List.replicate nv none⟩/\(iq vk env)[ti]? =some none/\(∀k,cs'[ti]? =some (some k)->WI L nc k):=by
 unfold sC at hv
 simp only[Bool.and_eq_true,decide_eq_true_eq]at hv
 refine eA hv λ z1_ v5=>?_;refine eA z1_ λ z1_ v4=>?_;obtain⟨⟨v1,v2⟩,v3⟩:=z1_
 have new_lt:∀{i j:Nat},vk[i]? =some (.new j)->j<nc:=λ{i j} e=>by
  have:=List.all_eq_true.mp v4 _ (ac e)
  exact of_decide_eq_true this
 have new_inj:∀{i j a:Nat},vk[i]? =some (.new a)->vk[j]? =some (.new a)->i=j:=λ{i j a} e1 e2=>by
  have h1:=List.all_eq_true.mp v5 i (List.mem_range.mpr (aa.mp e1).1)
  have h2:=List.all_eq_true.mp h1 j (List.mem_range.mpr (aa.mp e2).1)
  rw[e1,e2]at h2
  simpa using h2
 have hlen:(σ.st++[AO.list []]++List.replicate nc (AO.cell none)).length=L+1+nc:=by
  rw[aU,aU,vg,← hL];rfl
 have hold:∀{p:Nat},p<L->(σ.st++[AO.list []]++List.replicate nc (AO.cell none))[p]? =σ.st[p]? :=λ{p} hp=>by
  rw[aR,aL (by rw[← hL];exact hp)]
 have hft:∀p,bl X W env p->p<L:=λ p h=>hL▸R.lt p h
 have nopl:∀{i:Nat} {w:VV},(iq vk env)[i]? =some (some w)->pl w=[]:=λ h=>by
  refine bR (kS h) λ _ _ _ _ e=>?_
  exact tF e
 refine⟨⟨?_,λ p h=>?_,λ p h q=>?_,λ i w p e hp=>?_,λ i k e hk=>?_,λ i j k e1 e2 hk=>?_,λ i k e=>?_,λ i w e=>?_⟩,?_,λ k e=>?_⟩
 ·show(iq vk env).length<=(List.replicate nv none).length
  unfold iq
  rw[aD,vg]
  exact v1
 ·show p<(σ.st++[AO.list []]++List.replicate nc (AO.cell none)).length
  rw[hlen]
  rcases h with h|h|⟨j,w,e,h⟩
  ·have:=hft p h;exact ω115 this
  ·have:=h.2;exact ω116 this
  ·rw[nopl e]at h;cases h
 ·have:=hft p h
  have:=q.1
  lia
 ·rw[nopl e]at hp;cases hp
 ·rcases eO hc e with⟨j,hj,rfl⟩|⟨j,hj,e2⟩
  ·have:=new_lt hj
   refine⟨none,?_⟩
   show(σ.st++[AO.list []]++List.replicate nc (AO.cell none))[L+1+j]? =_
   rw[az (by simp;exact ω117 hL),bX]
   simp
   exact ω118 hL this
  ·have:k<L:=hft k ((R.csx j k e2).elim .inl λ h=>.inr (.inl h))
   have:=hk.1
   lia
 ·rcases eO hc e1 with⟨a,ha,ka⟩|⟨a,ha,e3⟩
  ·rcases eO hc e2 with⟨b,hb,kb⟩|⟨b,hb,e4⟩
   ·have:a=b:=by exact ω119 ka kb
    subst this
    exact new_inj ha hb
   ·have:=hft k ((R.csx b k e4).elim .inl λ h=>.inr (.inl h))
    have:=hk.1
    lia
  ·have:=hft k ((R.csx a k e3).elim .inl λ h=>.inr (.inl h))
   have:=hk.1
   lia
 ·rcases eO hc e with⟨j,hj,rfl⟩|⟨j,hj,e2⟩
  ·have:=new_lt hj
   exact .inr ⟨by exact xm,by exact xl this⟩
  ·exact .inl ((R.csx j k e2).elim .inl λ h=>.inr (.inl h))
 ·refine bR (kS e) λ j w' hj ew hr=>?_
  refine aQ (ox hc hj) λ k k1 k2=>?_
  refine aQ (R.at' j w' ew) λ v h1 h2=>?_
  have hkl:k<L:=hft k ((R.csx j k k1).elim .inl λ h=>.inr (.inl h))
  have hm:∀(p:Nat) (o:AO),σ.st[p]? =some o->¬bl X W env p->(σ.st++[AO.list []]++List.replicate nc (AO.cell none))[p]? =some o/\¬bl (bl X W env) (WI L nc) (iq vk env) p:=λ p o e q=>by
   have hp:p<L:=hL▸(aa.mp e).1
   refine⟨(hold hp).trans e,λ z=>?_⟩
   rcases z with z|z|⟨a,b,c,d⟩
   ·exact q z
   ·have:=z.1;exact ej hp this
   ·rw[nopl c]at d;cases d
  refine⟨v,?_,?_⟩
  ·unfold bG at h1 ⊢
   rw[k1]at h1
   show(match cs'[i]? with|some (some k)=>_|_=>_)=_
   rw[k2]
   dsimp only at h1 ⊢
   rw[hold hkl]
   exact h1
  ·cases w' with
   |val n V=>cases hr;exact U.mono hm h2
   |own r n xs=>
    cases hr
    refine gc h2 λ e1 vs h3 h4=>?_
    have hf:bl X W env r:=.inr (.inr ⟨j,_,ew,by simp[pl]⟩)
    exact⟨e1,hf,vs,(hold (hft r hf)).trans h3,h4.mono λ _ _=>U.mono hm⟩
   |rdo r n xs=>
    cases hr
    refine jH h2 λ e1 hx vs h3 h4=>?_
    exact⟨e1,.inl hx,vs,(hold (hft r (.inl hx))).trans h3,h4.mono λ _ _=>U.mono hm⟩
   |obj r π enc=>cases hr
 ·unfold iq
  rw[aB,ae v2]
  have v3:=v3
  rw[ae v2]at v3
  cases q:vk[ti]with
  |loc=>rfl
  |new j=>rfl
  |old j=>rw[q]at v3;cases v3
 ·rcases eO hc e with⟨j,hj,rfl⟩|⟨j,hj,e2⟩
  ·have:=new_lt hj
   exact⟨by exact xm,by exact xl this⟩
  ·rw[hj]at v3;cases v3
theorem r5 {fuel nv nc ti m n:Nat}{vk:List VK}{ex:EF}{ifs:TF}{cls:List CL}{xs:List (Vl n)}{f:Vl n->List (Vl m)}{M:Nat->Prop}{x:AV}{I:IT}
  (R:Rel O D X W env σ) (hv:sC vk nv nc ti=true) (hc:∀b,∃cs',fo vk D.cs b=some cs') (h3:cF D.kt x σ.st=some I) (h4:ItOk σ.st (bl X W env) M n xs I) (hz:xs.length<fuel) (hr:(xs.flatMap f).length<=1000)
  (hb:∀L cs',fo vk D.cs (L+1)=some cs'->∀x∈xs,∃b,ET O ⟨cs',D.d,D.hn,D.kt⟩ (bl X W env) (WI L nc) ((iq vk env).set ti (some (.val n x))) ifs b/\
   (b=true->BS O ⟨cs',D.d,D.hn,D.kt⟩ (bl X W env) (WI L nc) L ((iq vk env).set ti (some (.val n x))) (hJ fuel ex L cls) m (f x))/\(b=false->f x=[])):
  ∃st',(Op.b (cF D.kt x σ.st) .no λ I=>Op.b (fo vk D.cs (Nat.succ σ.st.length)) .no λ cs'=>(eP fuel (gV ti) ifs (hJ fuel ex σ.st.length cls) ⟨cs',D.d,D.hn,D.kt⟩ I 0 ⟨σ.st++[.list []]++List.replicate nc (.cell none),List.replicate nv none⟩).b .no λ σ2=>.ok (.ref σ.st.length) ⟨σ2.st,σ.fr⟩:RV)= .ok (.ref σ.st.length) ⟨st',σ.fr⟩/\σ.st<+:st'/\U st' (bl X W env) (m+1) (xs.flatMap f) (.ref σ.st.length):=by
 refine eE (hc (σ.st.length+1)) λ cs' hcs=>?_
 refine fT (tB R hv rfl hcs) λ R' hti hw=>?_
 have hL:(σ.st++[AO.list []]++List.replicate nc (AO.cell none))[σ.st.length]? =some (.list []):=by
  rw[aR,az (Nat.le_refl _),Nat.sub_self];rfl
 have hpre:σ.st<+:σ.st++[AO.list []]++List.replicate nc (AO.cell none):=by rw[aR];exact ai _ _
 have hft:∀p,bl X W env p->p<σ.st.length:=R.lt
 have I':ItOk (σ.st++[AO.list []]++List.replicate nc (AO.cell none)) (bl (bl X W env) (WI σ.st.length nc) (iq vk env)) (WI σ.st.length nc) n xs I:=by
  refine h4.map (λ st2 k2=>?_) λ V v u=>u.mono λ p o e q=>⟨bZ hpre e,λ z=>?_⟩
  ·refine⟨Nat.le_trans hpre.length_le k2.1,λ p hp _=>?_⟩
   rw[k2.2 p (aN hp hpre.length_le) λ z=>by have:=z.1;exact ej hp this,ae hp]
   exact bZ hpre (ae hp)
  ·have hp:=(aa.mp e).1
   rcases z with z|z|⟨a,b,c,d⟩
   ·exact q z
   ·have:=z.1;exact ej hp this
   ·refine bR (kS c) λ _ _ _ _ e=>?_
    rw[tF e]at d;cases d
 refine dF (ik hti hw (⟨Nat.le_refl _,aZ _ _⟩:WI σ.st.length nc σ.st.length) (hb σ.st.length cs' hcs) xs 0 fuel _ [] rfl hz R' I' hL (by simpa using hr)) λ σ' ws g1 g2 g3 g4 g5=>?_
 refine⟨σ'.st,?_,?_,σ.st.length,ws,rfl,λ q=>aM _ (hft _ q),by simpa using g3,g4.mono λ V v=>U.mono λ p o e q=>⟨e,λ z=>q (.inl z)⟩⟩
 ·rw[h3]
  show Op.b (fo vk D.cs (Nat.succ σ.st.length)) _ _=_
  rw[hcs]
  show(eP fuel (gV ti) ifs (hJ fuel ex σ.st.length cls) ⟨cs',D.d,D.hn,D.kt⟩ I 0 _).b _ _=_
  rw[g1]
  rfl
 ·have hlt:σ.st.length<(σ.st++[AO.list []]++List.replicate nc (AO.cell none)).length:=(aa.mp hL).1
  refine mJ (Nat.le_trans (Nat.le_of_lt hlt) g5.1) λ p hp=>?_
  rw[g5.2 p (Nat.lt_trans hp hlt) λ z=>by have:=z.1;exact ej hp this,ae hp]
  exact bZ hpre (ae hp)
theorem qM {fuel nv nc ti m n:Nat}{vk:List VK}{it ex:EF}{ifs:TF}{cls:List CL}{xs:List (Vl n)}{f:Vl n->List (Vl m)}{M:Nat->Prop}(hn:D.hn=true)(hv:sC vk nv nc ti=true)(hc:∀b,∃cs',fo vk D.cs b=some cs')
  (hi:EI O D X W M env it n xs) (hz:xs.length<fuel) (hr:(xs.flatMap f).length<=1000)
  (hb:∀L cs',fo vk D.cs (L+1)=some cs'->∀x∈xs,∃b,ET O ⟨cs',D.d,D.hn,D.kt⟩ (bl X W env) (WI L nc) ((iq vk env).set ti (some (.val n x))) ifs b/\
   (b=true->BS O ⟨cs',D.d,D.hn,D.kt⟩ (bl X W env) (WI L nc) L ((iq vk env).set ti (some (.val n x))) (hJ fuel ex L cls) m (f x))/\(b=false->f x=[])):
  EX O D X W env (dq fuel nv nc vk it (gV ti) ifs cls ex) (m+1) (xs.flatMap f:List (Vl m)):=λ σ R=>by
 refine eI (hi σ R) λ x st' I h1 h2 h3 h4=>?_
 refine bW (r5 (R.grow h2) hv hc h3 h4 hz hr hb) λ st2 e1 e2 e3=>?_
 refine⟨_,st2,?_,h2.trans e2,e3⟩
 unfold dq
 refine(congrArg (λ b=>bb b _ _) hn).trans ?_
 show(it D σ).b _ _=_
 rw[h1]
 exact e1
theorem g8 {fuel nv nc ti m n:Nat}{vk:List VK}{it ex:EF}{ifs:TF}{xs:List (Vl n)}{p:Vl n->Bool}{g:Vl n->Vl m}{M:Nat->Prop}(hn:D.hn=true)(hv:sC vk nv nc ti=true)(hc:∀b,∃cs',fo vk D.cs b=some cs')
  (hi:EI O D X W M env it n xs) (hz:xs.length<fuel) (hr:xs.length<=1000)
  (hb:∀L cs',fo vk D.cs (L+1)=some cs'->∀x∈xs,ET O ⟨cs',D.d,D.hn,D.kt⟩ (bl X W env) (WI L nc) ((iq vk env).set ti (some (.val n x))) ifs (p x)/\
   (p x=true->EX O ⟨cs',D.d,D.hn,D.kt⟩ (bl X W env) (WI L nc) ((iq vk env).set ti (some (.val n x))) ex m (g x))):
  EX O D X W env (dq fuel nv nc vk it (gV ti) ifs [] ex) (m+1) ((xs.filter p).map g:List (Vl m)):=by
 have e:(xs.filter p).map g=xs.flatMap λ x=>if p x=true then[g x]else[]:=by
  clear hi hz hr hb
  induction xs with
  |nil=>rfl
  |cons x xs ih=>
   rw[List.flatMap_cons,← ih]
   cases q:p x with
   |true=>rw[List.filter_cons_of_pos q];rfl
   |false=>rw[List.filter_cons_of_neg (by rw[q];nofun)];rfl
 have hr':((xs.filter p).map g).length<=1000:=by rw[aD];exact Nat.le_trans (List.length_filter_le _ _) hr
 show EX O D X W env _ (m+1) ((xs.filter p).map g)
 rw[e]at hr' ⊢
 refine qM hn hv hc hi hz hr' λ L cs' hcs x hx=>⟨p x,(hb L cs' hcs x hx).1,λ q=>?_,λ q=>?_⟩
 ·rw[if_pos q]
  exact q9 ⟨Nat.le_refl _,aZ _ _⟩ ((hb L cs' hcs x hx).2 q)
 ·rw[q];rfl
end
inductive pV where
 |nx (env:VE)
 |ex (P:VE->Prop)
 |rt (n:Nat) (V:Vl n)
noncomputable def MW (X W:Nat->Prop)(env:VE)(p:Nat):Prop:=bl X W env p/\¬X p
noncomputable def OutOk (O:ei)(D:Dn)(X W:Nat->Prop)(env:VE)(st:List AO)(q:RF):pV->Prop
 |.nx env'=>∃σ',q= .nx σ'/\Rel O D X W env' σ'/\KW (MW X W env) st σ'.st/\∀p,bl X W env' p->bl X W env p∨st.length<=p
 |.ex P=>∃env' σ',P env'/\q= .nx σ'/\Rel O D X W env' σ'/\KW (MW X W env) st σ'.st/\∀p,bl X W env' p->bl X W env p∨st.length<=p
 |.rt n V=>∃v σ',q= .rt v σ'/\U σ'.st X n V v/\KW (MW X W env) st σ'.st
noncomputable def SX (O:ei)(D:Dn)(X W:Nat->Prop)(env:VE)(s:SF)(o:pV):Prop:=∀σ,Rel O D X W env σ->OutOk O D X W env σ.st (s D σ) o
section
variable{O:ei}{D:Dn}{X W:Nat->Prop}{env:VE}{σ:AS}{o:pV}
theorem MW.notX (R:Rel O D X W env σ){p:Nat}(h:W p):MW X W env p:=⟨d_ h,λ x=>R.xw p x h⟩
theorem OutOk.step {env1:VE}{st st1:List AO}{q:RF}(k:KW (MW X W env) st st1)(s:∀p,bl X W env1 p->bl X W env p∨st.length<=p)(h:OutOk O D X W env1 st1 q o):OutOk O D X W env st q o:=by
 have kk:∀{st2:List AO},KW (MW X W env1) st1 st2->KW (MW X W env) st st2:=λ k1=>by
  refine⟨Nat.le_trans k.1 k1.1,λ p hp hm=>?_⟩
  rw[k1.2 p (aN hp k.1) λ z=>?_,k.2 p hp hm]at ⊢
  rcases s p z.1 with q|q
  ·exact hm ⟨q,z.2⟩
  ·exact ej hp q
 cases o with
 |nx env'=>
  refine em h λ σ' e R k1 s1=>?_
  refine⟨σ',e,R,kk k1,λ p hp=>?_⟩
  rcases s1 p hp with q|q
  ·exact s p q
  ·exact .inr (Nat.le_trans k.1 q)
 |ex P=>
  refine dF h λ env' σ' hP e R k1 s1=>?_
  refine⟨env',σ',hP,e,R,kk k1,λ p hp=>?_⟩
  rcases s1 p hp with q|q
  ·exact s p q
  ·exact .inr (Nat.le_trans k.1 q)
 |rt n V=>
  refine bR h λ v σ' e u k1=>?_
  exact⟨v,σ',e,u,kk k1⟩
theorem eT:SX O D X W env aC (.nx env):=λ σ R=>⟨σ,rfl,R,KW.refl _ _,λ _ h=>.inl h⟩
theorem b8 {a r:SF}{env1:VE}(ha:SX O D X W env a (.nx env1))(hr:SX O D X W env1 r o):SX O D X W env (ao a r) o:=λ σ R=>by
 refine em (ha σ R) λ σ1 e R'1 k s=>?_
 have:=(hr σ1 R'1).step k s
 unfold ao
 rw[e]
 exact this
theorem d5 {a r:SF}{P:VE->Prop}(ha:SX O D X W env a (.ex P))(hr:∀e,P e->SX O D X W e r o):SX O D X W env (ao a r) o:=λ σ R=>by
 refine dF (ha σ R) λ e1 σ1 hP e R'1 k s=>?_
 have:=(hr e1 hP σ1 R'1).step k s
 unfold ao
 rw[e]
 exact this
theorem SX.ex {s:SF}{env1:VE}{P:VE->Prop}(h:SX O D X W env s (.nx env1))(hP:P env1):SX O D X W env s (.ex P):=λ σ R=>by
 refine eE (h σ R) λ σ' a=>?_
 exact⟨env1,σ',hP,a⟩
theorem et {a r:SF}{n:Nat}{V:Vl n}(ha:SX O D X W env a (.rt n V)):SX O D X W env (ao a r) (.rt n V):=λ σ R=>by
 refine bR (ha σ R) λ v σ1 e u k=>?_
 refine⟨v,σ1,?_,u,k⟩
 unfold ao
 rw[e]
theorem fX {i n:Nat}{e:EF}{V:Vl n}(hi:i<env.length)(hw:∀k,D.cs[i]? =some (some k)->W k)(h:EX O D X W env e n V):SX O D X W env (bv (gV i) e) (.nx (env.set i (some (.val n V)))):=λ σ R=>by
 refine bR (h σ R) λ v st' h1 h2 hu=>?_
 refine em ((R.grow h2).set hi hw hu) λ σ2 e1 R'2 k _=>?_
 have k':KW (MW X W env) st' σ2.st:=⟨k.1,λ p hp hm=>k.2 p hp λ w=>hm (MW.notX R w)⟩
 refine⟨σ2,?_,R'2,(KW.pre h2).trans k',λ p hp=>.inl (ck hp)⟩
 unfold bv
 rw[h1]
 show(gV i D v ⟨st',σ.fr⟩).b _ _=_
 rw[e1]
 rfl
theorem lK {t:TF}{a b:SF}{c:Bool}(ht:ET O D X W env t c)(h:SX O D X W env (bb c a b) o):SX O D X W env (dL t a b) o:=λ σ R=>by
 refine aQ (ht σ R) λ st' h1 h2=>?_
 have:=(h _ (R.grow h2)).step (KW.pre h2) λ p hp=>.inl hp
 unfold dL
 rw[h1]
 cases c<;>exact this
theorem mq {e:EF}{n:Nat}{V:Vl n}(h:EX O D X W env e n V):SX O D X W env (cE e) (.rt n V):=λ σ R=>by
 refine bR (h σ R) λ v st' h1 h2 hu=>?_
 refine⟨v,⟨st',σ.fr⟩,?_,hu.mono λ p o e k=>⟨e,λ x=>k (.inl x)⟩,KW.pre h2⟩
 unfold cE
 rw[h1]
 rfl
theorem kK {i r n m:Nat}{xs:List (Vl n)}{ys:List (Vl m)}(h:env[i]? =some (some (.own r n xs))){p:Nat}(hp:bl X W (env.set i (some (.own r m ys))) p):bl X W env p:=by
 rcases hp with hp|hp|⟨j,w,e,hp⟩
 ·exact .inl hp
 ·exact .inr (.inl hp)
 ·rcases bD e with⟨rfl,q⟩|⟨hj,e⟩
  ·cases q;exact .inr (.inr ⟨i,_,h,hp⟩)
  ·exact .inr (.inr ⟨j,w,e,hp⟩)
theorem rS {cs:List (Option Nat)}{st st':List AO}{fr:List (Option AV)}{i:Nat}{v:AV}(h:∀(p:Nat) (z:Option AV),st[p]? =some (.cell z)->st'[p]? =some (.cell z))(e:bG cs ⟨st,fr⟩ i=some v):bG cs ⟨st',fr⟩ i=some v:=by
 unfold bG at e ⊢
 cases q:cs[i]? with
 |none=>rw[q]at e;exact e
 |some z=>
  rw[q]at e
  cases z with
  |none=>exact e
  |some k=>
   dsimp only at e ⊢
   cases q2:st[k]? with
   |none=>rw[q2]at e;cases e
   |some o=>
    rw[q2]at e
    cases o with
    |cell z=>rw[h k z q2];exact e
    |_=>cases e
theorem Rel.upOwn (R:Rel O D X W env σ){i r n:Nat}{xs ys:List (Vl n)}{vs:List AV}(h:env[i]? =some (some (.own r n xs)))(u:Us σ.st (bl X W env) n ys vs):Rel O D X W (env.set i (some (.own r n ys))) ⟨σ.st.set r (.list vs),σ.fr⟩:=by
 refine ni (R.at' i _ h) λ v0 g0 e0 vs0 h0 u0=>?_
 refine fT (R.dis i _ r h (by simp[pl])) λ d1 d2 d3=>?_
 have hi:=(aa.mp h).1
 have hne:∀(p:Nat),r≠p->(σ.st.set r (AO.list vs))[p]? =σ.st[p]? :=λ p hp=>ak hp
 have hm:∀(p:Nat) (o:AO),σ.st[p]? =some o->¬bl X W env p->(σ.st.set r (AO.list vs))[p]? =some o/\¬bl X W (env.set i (some (.own r n ys))) p:=λ p o e k=>
  ⟨(hne p λ q=>k (.inr (.inr ⟨i,_,h,by rw[← q];simp[pl]⟩))).trans e,λ q=>k (kK h q)⟩
 have gv:∀{j:Nat} {v:AV},bG D.cs σ j=some v->bG D.cs ⟨σ.st.set r (.list vs),σ.fr⟩ j=some v:=λ e=>rS (λ p z hz=>by rw[hne p λ q=>by rw[← q,h0]at hz;cases hz];exact hz) e
 refine⟨by simpa using R.len,λ p hp=>by simpa using R.lt p (kK h hp),R.xw,λ j w p e hp=>?_,λ j k e w=>?_,R.cnd,R.csx,λ j w e=>?_⟩
 ·have back:∀(l:Nat) (w':VV),(env.set i (some (.own r n ys)))[l]? =some (some w')->p∈pl w'->∃w2,env[l]? =some (some w2)/\p∈pl w2:=λ l w' e' hp'=>by
   rcases bD e' with⟨rfl,q⟩|⟨_,e'⟩
   ·cases q;exact⟨_,h,hp'⟩
   ·exact⟨w',e',hp'⟩
  refine aQ (back j w e hp) λ w1 e1 p1=>?_
  refine fT (R.dis j w1 p e1 p1) λ a b c=>?_
  refine⟨a,b,λ l w' e' hp'=>?_⟩
  refine aQ (back l w' e' hp') λ w2 e2 p2=>?_
  exact c l w2 e2 p2
 ·refine eE (R.cel j k e w) λ z hz=>?_
  exact⟨z,(hne k λ q=>by rw[← q,h0]at hz;cases hz).trans hz⟩
 ·rcases bD e with⟨rfl,q⟩|⟨hj,e⟩
  ·cases q
   exact⟨v0,gv g0,e0,vs,aH (aa.mp h0).1,u.mono λ _ _=>U.mono hm⟩
  ·refine aQ (R.at' j w e) λ v g k=>?_
   exact⟨v,gv g,k.mono hm (λ p hp=>hne p λ q=>hj (d3 j w e (by rw[q];exact hp))) λ p hp=>⟨hp,hne p λ q=>d1 (by rw[q];exact hp)⟩⟩
theorem uj {i:Nat}{v:AV}{σ':AS}(hi:i<σ.fr.length)(hc:∀k,D.cs[i]? =some (some k)->∃z,σ.st[k]? =some (AO.cell z))(hd:∀j k,D.cs[i]? =some (some k)->D.cs[j]? =some (some k)->i=j)(h:gV i D v σ= .ok σ'):
  bG D.cs σ' i=some v/\∀j,i≠j->bG D.cs σ' j=bG D.cs σ j:=by
 unfold gV at h
 rw[aS]at h
 have loc:(∀k,D.cs[i]?≠some (some k))->RU.ok ⟨σ.st,cr σ.fr i (some v)⟩= .ok σ'->bG D.cs σ' i=some v/\∀j,i≠j->bG D.cs σ' j=bG D.cs σ j:=λ hl h=>by
  cases h
  rw[bw]
  exact⟨by rw[iJ σ hl hi,if_pos rfl],λ j hj=>by rw[iJ σ hl hi,if_neg hj]⟩
 cases q:D.cs[i]? with
 |none=>rw[q]at h;exact loc (λ k e=>by rw[q]at e;cases e) h
 |some z=>
  rw[q]at h
  cases z with
  |none=>exact loc (λ k e=>by rw[q]at e;cases e) h
  |some k=>
   refine eE (hc k q) λ z hz=>?_
   have h:nR k v σ= .ok σ':=h
   unfold nR at h
   rw[aS,hz]at h
   have h:RU.ok ⟨cr σ.st k (.cell (some v)),σ.fr⟩= .ok σ':=h
   cases h
   rw[bw]
   refine⟨?_,λ j hj=>?_⟩
   ·unfold bG
    rw[q]
    dsimp only
    rw[aH (aa.mp hz).1]at ⊢
   ·unfold bG
    cases q2:D.cs[j]? with
    |none=>rfl
    |some z2=>
     cases z2 with
     |none=>rfl
     |some k2=>
      dsimp only
      rw[ak λ e=>hj (hd j k q (by rw[e];exact q2))]at ⊢
theorem Rel.newOwn (R:Rel O D X W env σ){i n:Nat}(hi:i<env.length)(hw:∀k,D.cs[i]? =some (some k)->W k){xs:List (Vl n)}{vs:List AV}(u:Us σ.st (bl X W env) n xs vs):
  ∃σ',gV i D (.ref σ.st.length) ⟨σ.st++[.list vs],σ.fr⟩= .ok σ'/\Rel O D X W (env.set i (some (.own σ.st.length n xs))) σ'/\KW W (σ.st++[.list vs]) σ'.st:=by
 have nf:¬bl X W env σ.st.length:=λ q=>aM _ (R.lt _ q)
 have R1:=R.grow (ai σ.st [AO.list vs])
 refine iM (R1.set hi hw (U.new R (ah _) u)) λ σ' e1 R2 k kl kc=>?_
 have gg:=uj (aN hi R1.len) (λ k q=>R1.cel i k q (hw k q)) (λ j k q q2=>R1.cnd i j k q q2 (hw k q)) e1
 refine⟨σ',e1,?_,k⟩
 have hr:σ'.st[σ.st.length]? =some (.list vs):=k.at' (by show(σ.st++[AO.list vs])[σ.st.length]? =_;exact ii) λ w=>nf (d_ w)
 have fs:∀p,bl X W (env.set i (some (.own σ.st.length n xs))) p->bl X W env p∨p=σ.st.length:=λ p h=>by
  rcases h with h|h|⟨j,w,e,h⟩
  ·exact .inl (.inl h)
  ·exact .inl (.inr (.inl h))
  ·rcases bD e with⟨rfl,q⟩|⟨hj,e⟩
   ·cases q;simp[pl]at h;exact .inr h
   ·exact .inl (.inr (.inr ⟨j,w,e,h⟩))
 have hm:∀(p:Nat) (o:AO),σ.st[p]? =some o->¬bl X W env p->σ'.st[p]? =some o/\¬bl X W (env.set i (some (.own σ.st.length n xs))) p:=λ p o e q=>by
  have hp:=(aa.mp e).1
  refine⟨k.at' (bZ (ai _ _) e) λ w=>q (d_ w),λ z=>?_⟩
  rcases fs p z with z|z
  ·exact q z
  ·exact ω38 hp z
 have hs:∀p,p<σ.st.length->¬W p->σ'.st[p]? =σ.st[p]? :=λ p hp w=>by
  rw[k.2 p (by simp;exact xk hp) w]
  show(σ.st++[AO.list vs])[p]? =_
  exact aL hp
 refine⟨by have:=R2.len;simpa using this,λ p hp=>?_,R.xw,λ j w p e hp=>?_,R2.cel,R2.cnd,R2.csx,λ j w e=>?_⟩
 ·rw[kl]
  rcases fs p hp with z|z
  ·have:=R.lt p z;simp;exact xk this
  ·rw[z];simp
 ·rcases bD e with⟨rfl,q⟩|⟨hj,e⟩
  ·cases q
   have hp:p=σ.st.length:=by simpa[pl]using hp
   subst hp
   refine⟨λ x=>nf (.inl x),λ w=>nf (d_ w),λ l w' e' hp'=>?_⟩
   rcases bD e' with⟨h,_⟩|⟨_,e'⟩
   ·exact h
   ·exact absurd (.inr (.inr ⟨l,w',e',hp'⟩)) nf
  ·refine fT (R.dis j w p e hp) λ a b c=>?_
   refine⟨a,b,λ l w' e' hp'=>?_⟩
   rcases bD e' with⟨rfl,q⟩|⟨_,e'⟩
   ·cases q
    have hp':p=σ.st.length:=by simpa[pl]using hp'
    subst hp'
    exact absurd (.inr (.inr ⟨j,w,e,hp⟩)) nf
   ·exact c l w' e' hp'
 ·rcases bD e with⟨rfl,q⟩|⟨hj,e⟩
  ·cases q
   exact⟨.ref σ.st.length,gg.1,rfl,vs,hr,u.mono λ _ _=>U.mono hm⟩
  ·refine aQ (R.at' j w e) λ v g kk=>?_
   exact⟨v,(gg.2 j hj).trans (iK (λ p o=>bZ (ai _ _)) g),kk.mono hm (λ p hp=>hs p (R.lt p (.inr (.inr ⟨j,w,e,hp⟩))) (R.dis j w p e hp).2.1) λ p hp=>⟨hp,hs p (R.lt p (.inl hp)) (R.xw p hp)⟩⟩
end
section
variable{O:ei}{D:Dn}{X W:Nat->Prop}{env:VE}{σ:AS}{o:pV}
theorem e_ {g:GF}{e:EF}{v:AV}{σ1 σ2:AS}(h1:e D σ= .ok v σ1)(h2:g D v σ1= .ok σ2):bv g e D σ= .nx σ2:=by
 unfold bv
 rw[h1]
 show(g D v σ1).b _ _=_
 rw[h2]
 rfl
theorem sL {i n:Nat}{l:LF}{r:SF}{xs:List (Vl n)}(hi:i<env.length)(hw:∀k,D.cs[i]? =some (some k)->W k)(h:EA O D X W env l (xs.map (.mk n)))(hz:xs.length<=1000)(hr:∀a,SX O D X W (env.set i (some (.own a n xs))) r o):SX O D X W env (ao (bv (gV i) (dj l)) r) o:=λ σ R=>by
 refine bR (h σ R) λ vs st' h1 h2 hu=>?_
 have hu:=kW (l:=l) hu
 have R1:=R.grow h2
 refine bW (R1.newOwn hi hw hu) λ σ2 e1 R'2 k=>?_
 have hz':Nat.ble vs.length big=true:=aF (by rw[← hu.length];unfold big;exact gG hz)
 have unf:ao (bv (gV i) (dj l)) r D σ=r D σ2:=by
  have e0:dj l D σ= .ok (.ref st'.length) ⟨st'++[.list vs],σ.fr⟩:=by
   unfold dj
   rw[h1]
   show bb (Nat.ble vs.length big) _ _=_
   rw[hz']
   rfl
  unfold ao
  rw[e_ e0 e1]
 rw[unf]
 have k':KW (MW X W env) σ.st σ2.st:=(KW.pre (h2.trans (ai _ _))).trans ⟨k.1,λ p hp hm=>k.2 p hp λ w=>hm (MW.notX R w)⟩
 refine(hr _ σ2 R'2).step k' λ p hp=>?_
 rcases hp with hp|hp|⟨j,w,e,hp⟩
 ·exact .inl (.inl hp)
 ·exact .inl (.inr (.inl hp))
 ·rcases bD e with⟨rfl,q⟩|⟨_,e⟩
  ·cases q
   have hp:p=st'.length:=by simpa[pl]using hp
   exact .inr (hp▸h2.length_le)
  ·exact .inl (.inr (.inr ⟨j,w,e,hp⟩))
theorem iY (R:Rel O D X W env σ){i r n:Nat}{xs:List (Vl n)}(h:env[i]? =some (some (.own r n xs))):cV i D σ= .ok (.ref r) σ/\MW X W env r/\∃vs,σ.st[r]? =some (.list vs)/\Us σ.st (bl X W env) n xs vs:=by
 refine ni (R.at' i _ h) λ v h1 z1_ vs h2 h3=>?_;subst z1_
 exact⟨jI h1,⟨.inr (.inr ⟨i,_,h,by simp[pl]⟩),(R.dis i _ r h (by simp[pl])).1⟩,vs,h2,h3⟩
theorem ml {i r n:Nat}{xs ys:List (Vl n)}{vs:List AV}{st':List AO}{q:RF}(R:Rel O D X W env σ)(h:env[i]? =some (some (.own r n xs)))(h2:σ.st<+:st')(u:Us st' (bl X W env) n ys vs)(e:q= .nx ⟨st'.set r (.list vs),σ.fr⟩):
  OutOk O D X W env σ.st q (.nx (env.set i (some (.own r n ys)))):=by
 refine fT (iY R h) λ _ hm _=>?_
 have R1:=R.grow h2
 refine⟨_,e,R1.upOwn h u,(KW.pre h2).trans ⟨by simp,λ p hp k=>ak λ q=>k (by rw[← q];exact hm)⟩,λ p hp=>.inl (kK h hp)⟩
theorem fx {st:List AO}{r:Nat}{vs:List AV}(h:st[r]? =some (.list vs)):iD .list (.ref r) st=true:=by
 exact mn h
theorem Rel.disown (R:Rel O D X W env σ){i r n:Nat}{xs:List (Vl n)}(h:env[i]? =some (some (.own r n xs))):Rel O D X W (env.set i (some (.val (n+1) xs))) σ:=by
 have hi:=(aa.mp h).1
 refine ni (R.at' i _ h) λ v h1 z1_ vs h2 h3=>?_;subst z1_
 refine fT (R.dis i _ r h (by simp[pl])) λ d1 d2 d3=>?_
 have nr:¬bl X W (env.set i (some (.val (n+1) xs))) r:=λ q=>by
  rcases q with q|q|⟨j,w,e,q⟩
  ·exact d1 q
  ·exact d2 q
  ·rcases bD e with⟨rfl,q2⟩|⟨hj,e⟩
   ·cases q2;cases q
   ·exact hj (d3 j w e q)
 refine⟨by simpa using R.len,λ p hp=>R.lt p (ck hp),R.xw,λ j w p e hp=>?_,R.cel,R.cnd,R.csx,λ j w e=>?_⟩
 ·rcases bD e with⟨_,q⟩|⟨hj,e⟩
  ·cases q;cases hp
  ·refine fT (R.dis j w p e hp) λ a b c=>?_
   refine⟨a,b,λ l w' e' hp'=>?_⟩
   rcases bD e' with⟨_,q⟩|⟨hl,e'⟩
   ·cases q;cases hp'
   ·exact c l w' e' hp'
 ·rcases bD e with⟨rfl,q⟩|⟨hj,e⟩
  ·cases q
   exact⟨_,h1,r,vs,rfl,nr,h2,h3.mono λ _ _=>U.mono λ p o e k=>⟨e,λ q=>k (ck q)⟩⟩
  ·refine aQ (R.at' j w e) λ v g k=>?_
   exact⟨v,g,k.mono (λ p o e k=>⟨e,λ q=>k (ck q)⟩) (λ _ _=>rfl) λ p hp=>⟨hp,rfl⟩⟩
theorem rA {i r n:Nat}{xs:List (Vl n)}{s:SF}(h:env[i]? =some (some (.own r n xs)))(hs:SX O D X W (env.set i (some (.val (n+1) xs))) s o):SX O D X W env s o:=λ σ R=>
 (hs σ (R.disown h)).step (KW.refl _ _) λ p hp=>.inl (ck hp)
theorem rp {i r n:Nat}{xs:List (Vl n)}(h:env[i]? =some (some (.own r n xs))):SX O D X W env (cE (cV i)) (.rt (n+1) xs):=
 rA h (mq (bJ (by rw[aH (aa.mp h).1])))
inductive FX (O:ei) (D:Dn) (X W:Nat->Prop) (i n:Nat) (body:SF):VE->List (Vl n)->pV->Prop
 |nil (e:VE):FX O D X W i n body e [] (.nx e)
 |next (e e1:VE) (x:Vl n) (xs:List (Vl n)) (q:pV):SX O D X W (e.set i (some (.val n x))) body (.nx e1)->i<e1.length->FX O D X W i n body e1 xs q->FX O D X W i n body e (x::xs) q
 |nilE (e:VE) (P:VE->Prop):P e->FX O D X W i n body e [] (.ex P)
 |nextE (e:VE) (P:VE->Prop) (x:Vl n) (xs:List (Vl n)) (q:pV):SX O D X W (e.set i (some (.val n x))) body (.ex P)->(∀e1,P e1->i<e1.length)->(∀e1,P e1->FX O D X W i n body e1 xs q)->FX O D X W i n body e (x::xs) q
 |ret (e:VE) (x:Vl n) (xs:List (Vl n)) (m:Nat) (V:Vl m):SX O D X W (e.set i (some (.val n x))) body (.rt m V)->FX O D X W i n body e (x::xs) (.rt m V)
theorem wb {i n:Nat}{body:SF}(hw:∀k,D.cs[i]? =some (some k)->W k){it:IT}{zs:Nat->Option AV}{st0:List AO}{F0:Nat->Prop}{M:Nat->Prop}(h1:∀st',KW M st0 st'->∀k,b7 it k st'=some (zs k)):
  ∀{xs:List (Vl n)} {env:VE} {o:pV},FX O D X W i n body env xs o->∀{k fuel:Nat} {σ:AS},i<env.length->xs.length<fuel->Rel O D X W env σ->KW M st0 σ.st->(∀st2,KW (MW X W env) σ.st st2->KW M st0 st2)->
   (∀p,bl X W env p->F0 p∨st0.length<=p)->(∀p,MW X W env p->M p∨st0.length<=p)->
   (∀j,match xs[j]? with|none=>j=xs.length->zs (k+j)=none|some V=>∃v,zs (k+j)=some v/\U st0 F0 n V v)->(∀p,M p->F0 p)->OutOk O D X W env σ.st (cb fuel (gV i) body aC D it k σ) o:=by
 intro xs env o h
 induction h with
 |nil=>
  intro k fuel σ hi hf R k0 _ _ _ hz _
  cases fuel with
  |zero=>exact absurd hf (bK _)
  |succ fuel=>
   have:=hz 0
   have hz0:zs k=none:=this rfl
   refine⟨σ,?_,R,KW.refl _ _,λ p hp=>.inl hp⟩
   show Op.b (b7 it k σ.st) _ _=_
   rw[h1 _ k0 k,hz0]
   rfl
 |next env env1 x xs o hb hl hx ih=>
  intro k fuel σ hi hf R k0 hk hs hms hz hMF
  cases fuel with
  |zero=>exact absurd hf (bK _)
  |succ fuel=>
   refine aQ (hz 0) λ v hv hu=>?_
   have hv:zs k=some v:=hv
   have u1:U σ.st (bl X W env) n x v:=hu.mono λ p o e q=>by
    have hp:=(aa.mp e).1
    refine⟨k0.at' e λ m=>q (hMF p m),λ z=>?_⟩
    rcases hs p z with z|z
    ·exact q z
    ·exact ej hp z
   refine em (R.set hi hw u1) λ σ1 e1 R'1 k1 _=>?_
   have km:KW (MW X W env) σ.st σ1.st:=⟨k1.1,λ p hp hm=>k1.2 p hp λ w=>hm (MW.notX R w)⟩
   refine em (hb σ1 R'1) λ σ2 e2 R'2 k2 s2=>?_
   have unf:cb (fuel+1) (gV i) body aC D it k σ=cb fuel (gV i) body aC D it (Nat.succ k) σ2:=by
    show Op.b (b7 it k σ.st) _ _=_
    rw[h1 _ k0 k,hv]
    show(gV i D v σ).b _ _=_
    rw[e1]
    show(RF.rec (motive:=λ _=>RF) .no (cb fuel (gV i) body aC D it (Nat.succ k)) .nx (cb fuel (gV i) body aC D it (Nat.succ k)) .rt (body D σ1):RF)=_
    rw[e2]
   rw[unf]
   have sub:∀p,bl X W env1 p->bl X W env p∨σ.st.length<=p:=λ p hp=>by
    rcases s2 p hp with q|q
    ·exact .inl (ck q)
    ·exact .inr (Nat.le_trans k1.1 q)
   have kk:KW (MW X W env) σ.st σ2.st:=by
    refine km.trans ⟨k2.1,λ p hp hm=>k2.2 p hp λ z=>hm ⟨ck z.1,z.2⟩⟩
   have hs':∀p,bl X W env1 p->F0 p∨st0.length<=p:=λ p hp=>by
    rcases sub p hp with q|q
    ·exact hs p q
    ·exact .inr (Nat.le_trans k0.1 q)
   have hms':∀p,MW X W env1 p->M p∨st0.length<=p:=λ p hp=>by
    rcases sub p hp.1 with q|q
    ·exact hms p ⟨q,hp.2⟩
    ·exact .inr (Nat.le_trans k0.1 q)
   have k0':=hk _ kk
   refine(ih hl (bu hf) R'2 k0' (λ st2 k3=>?_) hs' hms' (λ j=>?_) hMF).step kk sub
   ·refine⟨Nat.le_trans k0'.1 k3.1,λ p hp hm=>?_⟩
    rw[k3.2 p (aN hp k0'.1) λ z=>?_,k0'.2 p hp hm]at ⊢
    rcases hms' p z with q|q
    ·exact hm q
    ·exact ej hp q
   ·have:=hz (j+1)
    rw[hZ]at this
    have e:k+(j+1)=Nat.succ k+j:=by exact xj
    rw[e]at this
    cases q:xs[j]? with
    |none=>rw[q]at this;exact λ hj=>this (by rw[hj];rfl)
    |some V=>rw[q]at this;exact this
 |nilE env P hP=>
  intro k fuel σ hi hf R k0 _ _ _ hz _
  cases fuel with
  |zero=>exact absurd hf (bK _)
  |succ fuel=>
   have:=hz 0
   have hz0:zs k=none:=this rfl
   refine⟨env,σ,hP,?_,R,KW.refl _ _,λ p hp=>.inl hp⟩
   show Op.b (b7 it k σ.st) _ _=_
   rw[h1 _ k0 k,hz0]
   rfl
 |nextE env P x xs o hb hl hx ih=>
  intro k fuel σ hi hf R k0 hk hs hms hz hMF
  cases fuel with
  |zero=>exact absurd hf (bK _)
  |succ fuel=>
   refine aQ (hz 0) λ v hv hu=>?_
   have hv:zs k=some v:=hv
   have u1:U σ.st (bl X W env) n x v:=hu.mono λ p o e q=>by
    have hp:=(aa.mp e).1
    refine⟨k0.at' e λ m=>q (hMF p m),λ z=>?_⟩
    rcases hs p z with z|z
    ·exact q z
    ·exact ej hp z
   refine em (R.set hi hw u1) λ σ1 e1 R'1 k1 _=>?_
   have km:KW (MW X W env) σ.st σ1.st:=⟨k1.1,λ p hp hm=>k1.2 p hp λ w=>hm (MW.notX R w)⟩
   refine dF (hb σ1 R'1) λ env1 σ2 hP e2 R'2 k2 s2=>?_
   have unf:cb (fuel+1) (gV i) body aC D it k σ=cb fuel (gV i) body aC D it (Nat.succ k) σ2:=by
    show Op.b (b7 it k σ.st) _ _=_
    rw[h1 _ k0 k,hv]
    show(gV i D v σ).b _ _=_
    rw[e1]
    show(RF.rec (motive:=λ _=>RF) .no (cb fuel (gV i) body aC D it (Nat.succ k)) .nx (cb fuel (gV i) body aC D it (Nat.succ k)) .rt (body D σ1):RF)=_
    rw[e2]
   rw[unf]
   have sub:∀p,bl X W env1 p->bl X W env p∨σ.st.length<=p:=λ p hp=>by
    rcases s2 p hp with q|q
    ·exact .inl (ck q)
    ·exact .inr (Nat.le_trans k1.1 q)
   have kk:KW (MW X W env) σ.st σ2.st:=by
    refine km.trans ⟨k2.1,λ p hp hm=>k2.2 p hp λ z=>hm ⟨ck z.1,z.2⟩⟩
   have hs':∀p,bl X W env1 p->F0 p∨st0.length<=p:=λ p hp=>by
    rcases sub p hp with q|q
    ·exact hs p q
    ·exact .inr (Nat.le_trans k0.1 q)
   have hms':∀p,MW X W env1 p->M p∨st0.length<=p:=λ p hp=>by
    rcases sub p hp.1 with q|q
    ·exact hms p ⟨q,hp.2⟩
    ·exact .inr (Nat.le_trans k0.1 q)
   have k0':=hk _ kk
   refine(ih env1 hP (hl env1 hP) (bu hf) R'2 k0' (λ st2 k3=>?_) hs' hms' (λ j=>?_) hMF).step kk sub
   ·refine⟨Nat.le_trans k0'.1 k3.1,λ p hp hm=>?_⟩
    rw[k3.2 p (aN hp k0'.1) λ z=>?_,k0'.2 p hp hm]at ⊢
    rcases hms' p z with q|q
    ·exact hm q
    ·exact ej hp q
   ·have:=hz (j+1)
    rw[hZ]at this
    have e:k+(j+1)=Nat.succ k+j:=by exact xj
    rw[e]at this
    cases q:xs[j]? with
    |none=>rw[q]at this;exact λ hj=>this (by rw[hj];rfl)
    |some V=>rw[q]at this;exact this
 |ret env x xs m V hb=>
  intro k fuel σ hi hf R k0 hk hs hms hz hMF
  cases fuel with
  |zero=>exact absurd hf (bK _)
  |succ fuel=>
   refine aQ (hz 0) λ v hv hu=>?_
   have hv:zs k=some v:=hv
   have u1:U σ.st (bl X W env) n x v:=hu.mono λ p o e q=>by
    have hp:=(aa.mp e).1
    refine⟨k0.at' e λ m=>q (hMF p m),λ z=>?_⟩
    rcases hs p z with z|z
    ·exact q z
    ·exact ej hp z
   refine em (R.set hi hw u1) λ σ1 e1 R'1 k1 _=>?_
   have km:KW (MW X W env) σ.st σ1.st:=⟨k1.1,λ p hp hm=>k1.2 p hp λ w=>hm (MW.notX R w)⟩
   refine bR (hb σ1 R'1) λ w σ2 e2 u2 k2=>?_
   refine⟨w,σ2,?_,u2,km.trans ⟨k2.1,λ p hp hm=>k2.2 p hp λ z=>hm ⟨ck z.1,z.2⟩⟩⟩
   show Op.b (b7 it k σ.st) _ _=_
   rw[h1 _ k0 k,hv]
   show(gV i D v σ).b _ _=_
   rw[e1]
   show(RF.rec (motive:=λ _=>RF) .no (cb fuel (gV i) body aC D it (Nat.succ k)) .nx (cb fuel (gV i) body aC D it (Nat.succ k)) .rt (body D σ1):RF)=_
   rw[e2]
theorem iE {fuel i n:Nat}{a:EF}{body:SF}{xs:List (Vl n)}(hn:D.hn=true)(hi:i<env.length)(hw:∀k,D.cs[i]? =some (some k)->W k)(hz:xs.length<fuel)(he:EI O D X W (bl X W env) env a n xs)(hb:FX O D X W i n body env xs o):SX O D X W env (dM fuel (gV i) a body aC) o:=λ σ R=>by
 refine rW (he σ R) λ x st' I h1 h2 h3 zs h4 h5=>?_
 have R1:=R.grow h2
 have unf:dM fuel (gV i) a body aC D σ=cb fuel (gV i) body aC D I 0 ⟨st',σ.fr⟩:=by
  unfold dM
  rw[hn]
  show(a D σ).b _ _=_
  rw[h1]
  show Op.b (cF D.kt x st') _ _=_
  rw[h3]
  rfl
 rw[unf]
 refine(wb hw h4 hb hi hz R1 (KW.refl _ _) (λ st2 k=>⟨k.1,λ p hp hm=>k.2 p hp λ z=>hm z.1⟩) (λ p hp=>.inl hp) (λ p hp=>.inl hp.1) (λ j=>?_) λ p hp=>hp).step (KW.pre h2) λ p hp=>.inl hp
 have:=h5 j
 rw[Nat.zero_add]
 revert this
 cases xs[j]? with
 |none=>exact λ t _=>t
 |some V=>exact id
end
noncomputable def tv:j6->Option VV
 |.mk n V=>some (.val n V)
noncomputable def jt (ts:List j6)(n:Nat):VE:=ts.map tv++List.replicate (n - ts.length) none
noncomputable def WC (L nc p:Nat):Prop:=L<=p/\p<L+nc
section
variable{O:ei}{D:Dn}{X W:Nat->Prop}{env:VE}{σ:AS}
theorem er {ts:List j6}{k i:Nat}{w:VV}(h:(ts.map tv++List.replicate k none)[i]? =some (some w)):pl w=[]/\∃n V,w= .val n V/\ts[i]? =some (.mk n V):=by
 by_cases hi:i<ts.length
 ·rw[aL (by simpa using hi),aB,ae hi]at h
  cases q:ts[i]with
  |mk n V=>rw[q]at h;cases h;exact⟨rfl,n,V,rfl,by rw[ae hi,q]⟩
 ·rw[az (by simpa using hi),bX]at h
  split at h<;>cases h
theorem de {ts:List j6}{k p:Nat}(h:bl X W (ts.map tv++List.replicate k none) p):X p∨W p:=by
 rcases h with h|h|⟨i,w,e,h⟩
 ·exact .inl h
 ·exact .inr h
 ·rw[(er e).1]at h;cases h
theorem UA.mono {st st':List AO}{F F':Nat->Prop}(H:∀p o,st[p]? =some o->¬F p->st'[p]? =some o/\¬F' p){t:j6}{v:AV}(u:UA st F t v):UA st' F' t v:=by
 cases t;exact U.mono H u
theorem vO {n d m:Nat}{hn:Bool}{kt:Nat->Option (List AV)}{b:SF}{ts:List j6}{V:Vl m}{st:List AO}{vs:List AV}(hX:∀p,X p->p<st.length)(hu:Fa2 (UA st X) ts vs)(hl:ts.length<=n)
  (h:SX O ⟨[],d,hn,kt⟩ X (λ _=>False) (jt ts n) b (.rt m V)):∃v σ',b ⟨[],d,hn,kt⟩ ⟨st,f_ vs n⟩= .rt v σ'/\U σ'.st X m V v/\st<+:σ'.st:=by
 have hlen:=hu.length
 have R:Rel O ⟨[],d,hn,kt⟩ X (λ _=>False) (jt ts n) ⟨st,f_ vs n⟩:=by
  refine⟨?_,λ p hp=>?_,λ p _ q=>q,λ i w p e hp=>?_,λ i k e=>(by cases e),λ i j k e=>(by cases e),λ i k e=>(by cases e),λ i w e=>?_⟩
  ·show(ts.map tv++_).length<=(vs.map some++_).length
   simp
   exact xi hlen
  ·rcases de hp with q|q
   ·exact hX p q
   ·cases q
  ·rw[(er e).1]at hp;cases hp
  ·refine wy (er e) λ _ n' z1_=>?_;obtain⟨V',rfl,e2⟩:=z1_
   refine aQ (hu.get e2) λ v hv u=>?_
   refine⟨v,?_,U.mono (λ p o e k=>⟨e,λ q=>(de q).elim k id⟩) u⟩
   show(match(vs.map some++List.replicate (n - vs.length) none)[i]? with|some v=>v|none=>none)=_
   rw[aL (by simpa using(aa.mp hv).1),aB,hv]at ⊢
   rfl
 refine bR (h _ R) λ v σ' e u k=>?_
 exact⟨v,σ',e,u,mJ k.1 λ p hp=>k.2 p hp λ z=>(de z.1).elim z.2 id⟩
theorem mz {α:Type}:∀(a:List α) (x y:α) (b:List α),(a++x::b).set a.length y=a++y::b
 |[],_,_,_=>rfl
 |c::a,x,y,b=>congrArg (c::·) (mz a x y b)
theorem oF {n:Nat}(hw:∀(i k:Nat),D.cs[i]? =some (some k)->W k):∀{ts:List j6} {vs:List AV} {pre:List j6} {σ:AS},Fa2 (UA σ.st (bl X W [])) ts vs->Rel O D X W (pre.map tv++List.replicate (n - pre.length) none) σ->pre.length+ts.length<=n->
  ∃σ',l_ D vs pre.length σ= .ok σ'/\Rel O D X W ((pre++ts).map tv++List.replicate (n - (pre++ts).length) none) σ'/\KW W σ.st σ'.st
 |[],_,pre,σ,h,R,_=>by
  cases h
  exact⟨σ,rfl,by rw[List.append_nil];exact R,KW.refl _ _⟩
 |.mk m V::ts,_,pre,σ,h,R,hl=>by
  cases h with
  |cons u us=>
  rename_i v vs
  have hlen:(pre.map tv++List.replicate (n - pre.length) none:VE).length=n:=by simp at hl ⊢;exact ω133 hl
  have hi:pre.length<(pre.map tv++List.replicate (n - pre.length) none:VE).length:=by rw[hlen];simp at hl;exact ω51 hl
  have u':U σ.st (bl X W (pre.map tv++List.replicate (n - pre.length) none)) m V v:=U.mono (λ p o e k=>⟨e,λ q=>k ((de q).elim .inl λ w=>.inr (.inl w))⟩) (show U σ.st (bl X W []) m V v from u)
  refine em (R.set hi (hw _) u') λ σ1 e1 R'1 k1 _=>?_
  have e2:(pre.map tv++List.replicate (n - pre.length) none:VE).set pre.length (some (.val m V))=(pre++[j6.mk m V]).map tv++List.replicate (n - (pre++[j6.mk m V]).length) none:=by
   have:n - pre.length=(n - (pre++[j6.mk m V]).length)+1:=by simp at hl ⊢;exact ω134 hi hlen
   rw[this,List.replicate_succ]
   have h2:=mz (pre.map tv) none (some (VV.val m V)) (List.replicate (n - (pre++[j6.mk m V]).length) none)
   rw[aD]at h2
   refine h2.trans ?_
   rw[List.map_append,aR]
   rfl
  rw[e2]at R'1
  refine bW (oF hw (ts:=ts) (vs:=vs) (pre:=pre++[j6.mk m V]) (σ:=σ1) (us.mono λ t v=>UA.mono λ p o e k=>⟨k1.at' e λ w=>k (.inr (.inl w)),k⟩) R'1 (by simp at hl ⊢;exact ω55 hl)) λ σ' e3 R'2 k2=>?_
  refine⟨σ',?_,by simpa using R'2,k1.trans k2⟩
  show(gV pre.length D v σ).b _ _=_
  rw[e1]
  rw[aU]at e3
  exact e3
noncomputable def sD (vk:List VK)(nc:Nat):Bool:=vk.all (λ v=>match v with|.new j=>decide (j<nc)|.old _=>false|.loc=>true) &&
 (List.range vk.length).all λ i=>(List.range vk.length).all λ j=>match vk[i]?,vk[j]? with|some (.new a),some (.new b)=>!(a == b)||(i == j)|_,_=>true
theorem qp {n d m nc:Nat}{hn:Bool}{kt:Nat->Option (List AV)}{vk:List VK}{b:SF}{ts:List j6}{V:Vl m}{st:List AO}{vs:List AV}(hX:∀p,X p->p<st.length)(hu:Fa2 (UA st X) ts vs)(hl:ts.length<=n)(hv:sD vk nc=true)(hc:∃cs',fo vk [] st.length=some cs')
  (h:∀cs',fo vk [] st.length=some cs'->SX O ⟨cs',d,hn,kt⟩ X (WC st.length nc) (jt ts n) b (.rt m V)):∃v σ',o_ vk nc n b d hn kt vs st= .rt v σ'/\U σ'.st X m V v/\st<+:σ'.st:=by
 refine eE hc λ cs' hcs=>?_
 unfold sD at hv
 rw[Bool.and_eq_true]at hv
 refine eA hv λ v4 v5=>?_
 have new_lt:∀{i j:Nat},vk[i]? =some (.new j)->j<nc:=λ{i j} e=>by
  have:=List.all_eq_true.mp v4 _ (ac e)
  exact of_decide_eq_true this
 have not_old:∀{i j:Nat},vk[i]?≠some (.old j):=λ{i j} e=>by
  have:=List.all_eq_true.mp v4 _ (ac e)
  cases this
 have new_inj:∀{i j a:Nat},vk[i]? =some (.new a)->vk[j]? =some (.new a)->i=j:=λ{i j a} e1 e2=>by
  have h1:=List.all_eq_true.mp v5 i (List.mem_range.mpr (aa.mp e1).1)
  have h2:=List.all_eq_true.mp h1 j (List.mem_range.mpr (aa.mp e2).1)
  rw[e1,e2]at h2
  simpa using h2
 have isnew:∀{i k:Nat},cs'[i]? =some (some k)->∃j,vk[i]? =some (.new j)/\k=st.length+j:=λ{i k} e=>by
  rcases eO hcs e with q|⟨j,hj,_⟩
  ·exact q
  ·exact absurd hj not_old
 have R:Rel O ⟨cs',d,hn,kt⟩ X (WC st.length nc) (([]:List j6).map tv++List.replicate (n - ([]:List j6).length) none) ⟨st++List.replicate nc (.cell none),List.replicate n none⟩:=by
  refine⟨by simp,λ p hp=>?_,λ p x q=>?_,λ i w p e hp=>?_,λ i k e hk=>?_,λ i j k e1 e2 hk=>?_,λ i k e=>?_,λ i w e=>?_⟩
  ·show p<(st++List.replicate nc (AO.cell none)).length
   rw[aU,vg]
   rcases de hp with q|q
   ·have:=hX p q;exact xh this
   ·exact q.2
  ·have:=hX p x
   have:=q.1
   lia
  ·rw[(er e).1]at hp;cases hp
  ·refine aQ (isnew e) λ j hj z1_=>?_;subst z1_
   have:=new_lt hj
   refine⟨none,?_⟩
   show(st++List.replicate nc (AO.cell none))[st.length+j]? =_
   rw[az (sk),bX,if_pos (ω130 this)]at ⊢
  ·refine aQ (isnew e1) λ a ha ka=>?_
   refine aQ (isnew e2) λ b hb kb=>?_
   have:a=b:=by exact ω131 ka kb
   subst this
   exact new_inj ha hb
  ·refine aQ (isnew e) λ j hj z1_=>?_;subst z1_
   exact .inr ⟨by exact sk,by have:=new_lt hj;exact xg this⟩
  ·refine wy (er e) λ _ n' z1_=>?_;refine aQ z1_ λ V' _ e2=>?_
   cases e2
 have hu0:Fa2 (UA (st++List.replicate nc (.cell none)) (bl X (WC st.length nc) [])) ts vs:=hu.mono λ t v=>UA.mono λ p o e k=>⟨bZ (ai _ _) e,λ q=>by
  rcases q with q|q|⟨_,_,e,_⟩
  ·exact k q
  ·have:=(aa.mp e).1
   have:=q.1
   lia
  ·cases e⟩
 refine bW (oF (D:=⟨cs',d,hn,kt⟩) (n:=n) (λ i k e=>by refine aQ (isnew e) λ j hj z1_=>?_;subst z1_;exact⟨by exact sk,by have:=new_lt hj;exact xg this⟩) (pre:=[]) hu0 R (by simpa using hl)) λ σ1 e1 R'1 k1=>?_
 refine bR (h cs' hcs σ1 (by simpa[jt]using R'1)) λ v σ' e u k=>?_
 refine⟨v,σ',?_,u,?_⟩
 ·unfold o_
  rw[hcs]
  show(l_ ⟨cs',d,hn,kt⟩ vs 0 _).b _ _=_
  have e1:l_ ⟨cs',d,hn,kt⟩ vs 0 ⟨st++List.replicate nc (.cell none),List.replicate n none⟩= .ok σ1:=e1
  rw[e1]
  exact e
 ·have hle:st.length<=σ1.st.length:=Nat.le_trans (by simp) k1.1
  refine mJ (Nat.le_trans hle k.1) λ p hp=>?_
  rw[k.2 p (aN hp hle) λ z=>?_,k1.2 p (by simp;exact xh hp) λ z=>?_]at ⊢
  ·exact aL hp
  ·have:=z.1;exact ej hp this
  ·rcases de z.1 with q|q
   ·exact z.2 q
   ·have:=q.1;exact ej hp this
theorem oc {np n d m:Nat}{b:SF}{l:LF}{ts:List j6}{V:Vl m}(hd:D.d=d+1)(ha:EA O D X W env l ts)(hl:ts.length<=n)(hp:ts.length=np)(h:∀Y,SX O ⟨[],d,D.hn,D.kt⟩ Y (λ _=>False) (jt ts n) b (.rt m V)):EX O D X W env (aP (cm np n b) l) m V:=λ σ R=>by
 refine bR (ha σ R) λ vs st' e1 e2 hu=>?_
 refine bR (vO (λ p q=>(R.grow e2).lt p q) hu hl (h (bl X W env))) λ v σ' e3 u p=>?_
 refine⟨v,σ'.st,?_,e2.trans p,u⟩
 unfold aP
 rw[e1]
 show cm np n b D vs ⟨st',σ.fr⟩=_
 unfold cm
 rw[← hu.length,hp,Nat.beq_refl,hd]
 show RF.rec (motive:=λ _=>RV) .no (λ σ'=>.ok .none ⟨σ'.st,σ.fr⟩) (λ _=>.no) (λ _=>.no) (λ v σ'=>.ok v ⟨σ'.st,σ.fr⟩) (b ⟨[],d,D.hn,D.kt⟩ ⟨st',f_ vs n⟩)=_
 rw[e3]
theorem og {np n d m nc:Nat}{vk:List VK}{b:SF}{l:LF}{ts:List j6}{V:Vl m}(hd:D.d=d+1)(ha:EA O D X W env l ts)(hl:ts.length<=n)(hp:ts.length=np)(hv:sD vk nc=true)(hc:∀L,∃cs',fo vk [] L=some cs')
  (h:∀Y L cs',fo vk [] L=some cs'->SX O ⟨cs',d,D.hn,D.kt⟩ Y (WC L nc) (jt ts n) b (.rt m V)):EX O D X W env (aP (k8 np vk nc n b) l) m V:=λ σ R=>by
 refine bR (ha σ R) λ vs st' e1 e2 hu=>?_
 refine bR (qp (b:=b) (d:=d) (hn:=D.hn) (kt:=D.kt) (m:=m) (V:=V) (O:=O) (λ p q=>(R.grow e2).lt p q) hu hl hv (hc _) λ cs' e=>h (bl X W env) _ cs' e) λ v σ' e3 u p=>?_
 refine⟨v,σ'.st,?_,e2.trans p,u⟩
 unfold aP
 rw[e1]
 show k8 np vk nc n b D vs ⟨st',σ.fr⟩=_
 unfold k8
 rw[← hu.length,hp,Nat.beq_refl,hd]
 show RF.rec (motive:=λ _=>RV) .no (λ σ'=>.ok .none ⟨σ'.st,σ.fr⟩) (λ _=>.no) (λ _=>.no) (λ v σ'=>.ok v ⟨σ'.st,σ.fr⟩) (o_ vk nc n b d D.hn D.kt vs st')=_
 rw[e3]
end
section
variable{O:ei}{D:Dn}{X W:Nat->Prop}{env:VE}{σ:AS}{o:pV}
theorem rT {st:List AO}{F:Nat->Prop}{fl:List AV}{vs:List AV}(h:Fa2 (UA st F) (fl.map λ v=>j6.mk 0 v) vs):vs=fl:=by
 induction fl generalizing vs with
 |nil=>cases h;rfl
 |cons f fl ih=>
  cases h with
  |cons a r=>refine eA a λ z1_ _=>?_;clear a;subst z1_;rw[ih r]
theorem qK {d0:Nat}{g:List AV->Option AV}{l:LF}{fl:List AV}{v:AV}(hn:D.hn=true)(hd:d0+1<=D.d)(ha:EA O D X W env l (fl.map λ v=>.mk 0 v))(hg:g fl=some v)(hf:flat v=true):EX O D X W env (aP (gz d0 g) l) 0 v:=λ σ R=>by
 refine bR (ha σ R) λ vs st' e1 e2 hu=>?_
 rw[rT hu]at e1
 refine⟨v,st',?_,e2,rfl,hf⟩
 unfold aP
 rw[e1]
 show gz d0 g D fl ⟨st',σ.fr⟩=_
 unfold gz
 rw[hn,aF hd,hg]
 rfl
noncomputable def nD (tb:Tb)(x:AV)(n:Int):Option Int:=x.ki none (λ i=>tb.bt i n) λ m=>Op.b (fL .RShift m n) none λ q=>fL .BitAnd q 1
theorem wk {tb:Tb}{a b:EF}{x:AV}{n c:Int}(ha:EX O D X W env a 0 x)(hb:EX O D X W env b 0 (.int n))(h:nD tb x n=some c):ET O D X W env (tE (jJ tb a b)) (c != 0):=
 et_i λ σ R=>by
  refine bz (ha σ R) λ v st'1 h1 h2 z1_ _=>?_;subst z1_
  refine bz (hb _ (R.grow h2)) λ w st'2 h3 h4 z1_ _=>?_;subst z1_
  refine⟨_,st'2,?_,h2.trans h4,rfl,rfl⟩
  unfold jJ
  rw[h1]
  show(b D ⟨st'1,σ.fr⟩).b _ _=_
  rw[h3]
  cases v with
  |kt i=>
   show Op.b (tb.bt i n) _ _=_
   rw[show tb.bt i n=some c from h]
   rfl
  |int m=>
   have h:Op.b (fL .RShift m n) none (λ q=>fL .BitAnd q 1)=some c:=h
   show Op.b (fL .RShift m n) _ _=_
   refine Op.elim h λ q hq hc=>?_
   rw[hq]
   show Op.b (fL .BitAnd q 1) _ _=_
   rw[hc]
   exact ek c λ c=>RV.ok (AV.int c) ⟨st'2,σ.fr⟩
  |_=>cases h
theorem qJ {tb:Tb}{a l u:EF}{i:Nat}{y z:AV}{xs:List AV}(ha:EX O D X W env a 0 (.kt i))(hl:EX O D X W env l 0 y)(hu:EX O D X W env u 0 z)(h:tb.sl i y z=some xs)(hf:xs.all flat=true):EX O D X W env (k_ tb a l u) 1 xs:=λ σ R=>by
 refine bz (ha σ R) λ v st'1 h1 h2 z1_ _=>?_;subst z1_
 refine bz (hl _ (R.grow h2)) λ w st'2 h3 h4 z1_ _=>?_;subst z1_
 refine bz (hu _ (R.grow (h2.trans h4))) λ q st'3 h5 h6 z1_ _=>?_;subst z1_
 refine⟨.ref st'3.length,_,?_,((h2.trans h4).trans h6).trans (ai _ [.list xs]),U.new R ((h2.trans h4).trans h6) (n:=0) (Us.of_flat hf)⟩
 unfold k_
 rw[h1]
 show(l D ⟨st'1,σ.fr⟩).b _ _=_
 rw[h3]
 show(u D ⟨st'2,σ.fr⟩).b _ _=_
 rw[h5]
 show Op.b (tb.sl i w q) _ _=_
 rw[h]
 rfl
theorem m' {tb:Tb}{a:EF}{i:Nat}{v:AV}(ha:EX O D X W env a 0 (.kt i))(h:tb.ln i=some v)(hf:flat v=true):EX O D X W env (aP (jK tb) (aq a aI)) 0 v:=λ σ R=>by
 refine bz (ha σ R) λ w st'1 h1 h2 z1_ _=>?_;subst z1_
 refine⟨v,st'1,?_,h2,rfl,hf⟩
 unfold aP aq
 rw[h1]
 show jK tb D [.kt i] ⟨st'1,σ.fr⟩=_
 show Op.b (tb.ln i) _ _=_
 rw[h]
 rfl
theorem qc {st:List AO}{r:Nat}{vs:List AV}{y z:AV}{lo hi:Option Int}(h3:st[r]? =some (.list vs))(hz:vs.length<=1000)(hy:gU y=some lo)(hh:gU z=some hi):my (.ref r) y z st=some (.ref st.length,st++[.list (d7 vs lo hi)]):=by
 show(gU y).bind (λ lo=>(gU z).bind λ hi=>(st[r]?).bind (slcO st lo hi))=_
 rw[hy,hh,h3]
 show(match Nat.ble vs.length big with|true=>some (AV.ref st.length,st++[AO.list (d7 vs lo hi)])|false=>none)=_
 rw[aF (by unfold big;exact gG hz)]
theorem Us.slc {st:List AO}{F:Nat->Prop}{n:Nat}{xs:List (Vl n)}{vs:List AV}(h:Us st F n xs vs)(lo hi:Option Int):Us st F n (d7 xs lo hi) (d7 vs lo hi):=by
 rw[dD,dD,h.length]
 exact(h.drop _).take _
theorem pG {a l u:EF}{n:Nat}{xs:List (Vl n)}{y z:AV}{lo hi:Option Int}(ha:EL O D X W env a n xs)(hl:EX O D X W env l 0 y)(hu:EX O D X W env u 0 z)(hy:gU y=some lo)(hh:gU z=some hi)(hz:xs.length<=1000):EX O D X W env (f6 a l u) (n+1) (d7 xs lo hi:List (Vl n)):=λ σ R=>by
 refine b5 (ha σ R) λ r vs st'1 h1 h2 hW h7 hus=>?_
 refine bz (hl _ (R.grow h2)) λ w st'2 h3 h4 z1_ _=>?_;subst z1_
 refine bz (hu _ (R.grow (h2.trans h4))) λ q st'3 h5 h6 z1_ _=>?_;subst z1_
 have hus':=hus.pre (h4.trans h6)
 refine⟨.ref st'3.length,_,?_,((h2.trans h4).trans h6).trans (ai _ [.list (d7 vs lo hi)]),U.new R ((h2.trans h4).trans h6) (hus'.slc lo hi)⟩
 unfold f6
 rw[h1]
 show(l D ⟨st'1,σ.fr⟩).b _ _=_
 rw[h3]
 show(u D ⟨st'2,σ.fr⟩).b _ _=_
 rw[h5]
 show Op.b (my (.ref r) w q st'3) _ _=_
 rw[qc (bZ (h4.trans h6) h7) (by rw[← hus.length];exact hz) hy hh]
 rfl
theorem pF {tb:Tb}{a l:EF}{n i k:Nat}{xs:List (Vl n)}(ha:EL O D X W env a n xs)(hl:EX O D X W env l 0 (.kt i))(h:tb.cl i xs.length=some k)(hz:xs.length<=1000):EX O D X W env (k9 tb a l) (n+1) (xs.drop k:List (Vl n)):=λ σ R=>by
 refine b5 (ha σ R) λ r vs st'1 h1 h2 hW h7 hus=>?_
 refine bz (hl _ (R.grow h2)) λ w st'2 h3 h4 z1_ _=>?_;subst z1_
 have hus':=hus.pre h4
 refine⟨.ref st'2.length,_,?_,(h2.trans h4).trans (ai _ [.list (vs.drop k)]),U.new R (h2.trans h4) (hus'.drop k)⟩
 unfold k9
 rw[h1]
 show(l D ⟨st'1,σ.fr⟩).b _ _=_
 rw[h3]
 show Op.b (cy st'2 r) _ _=_
 rw[aS,bZ h4 h7]
 show bb (Nat.ble vs.length big) _ _=_
 rw[aF (by rw[← hus.length];unfold big;exact gG hz),← hus.length]
 show Op.b (tb.cl i xs.length) _ _=_
 rw[h]
 rfl
theorem oa {tb:Tb}{a l:EF}{n:Nat}{m:Int}{xs:List (Vl n)}(ha:EL O D X W env a n xs)(hl:EX O D X W env l 0 (.int m))(hz:xs.length<=1000):EX O D X W env (k9 tb a l) (n+1) (d7 xs (some m) none:List (Vl n)):=λ σ R=>by
 refine b5 (ha σ R) λ r vs st'1 h1 h2 hW h7 hus=>?_
 refine bz (hl _ (R.grow h2)) λ w st'2 h3 h4 z1_ _=>?_;subst z1_
 have hus':=hus.pre h4
 refine⟨.ref st'2.length,_,?_,(h2.trans h4).trans (ai _ [.list (d7 vs (some m) none)]),U.new R (h2.trans h4) (hus'.slc (some m) none)⟩
 unfold k9
 rw[h1]
 show(l D ⟨st'1,σ.fr⟩).b _ _=_
 rw[h3]
 show Op.b (my (.ref r) (.int m) .none st'2) _ _=_
 rw[qc (bZ h4 h7) (by rw[← hus.length];exact hz) rfl rfl]
 rfl
theorem oh:∀ns ms:List Int,xM (ns.map .int) (ms.map .int)=some (ns == ms)
 |[],[]=>rfl
 |[],_::_=>rfl
 |_::_,[]=>rfl
 |n::ns,m::ms=>by
  show Op.b (wn (.int n) (.int m)) none (λ b=>bb b (xM (ns.map .int) (ms.map .int)) (some false))=_
  have:wn (.int n) (.int m)=some (n == m):=rfl
  rw[this,oh ns ms]
  show bb (n == m) (some (ns == ms)) (some false)=_
  rw[show((n::ns) == (m::ms))=((n == m) && (ns == ms))from rfl]
  cases n == m<;>rfl
theorem nb {neg:Bool}{a b:EF}{ns ms:List Int}(ha:EL O D X W env a 0 (ns.map .int))(hb:EL O D X W env b 0 (ms.map .int))(hz:ns.length<=1000)(hz2:ms.length<=1000):ET O D X W env (lb neg a b) (xor neg (ns == ms)):=λ σ R=>by
 refine b5 (ha σ R) λ r vs st'1 h1 h2 hW h3 hu=>?_
 refine b5 (hb _ (R.grow h2)) λ q ws st'2 h4 h5 hW2 h6 hu2=>?_
 refine eA (Us.flat hu) λ z1_ _=>?_;subst z1_
 refine eA (Us.flat hu2) λ z1_ _=>?_;subst z1_
 refine⟨st'2,?_,h2.trans h5⟩
 unfold lb
 rw[h1]
 show(b D ⟨st'1,σ.fr⟩).b _ _=_
 rw[h4]
 show Op.b (zN (.ref r) (.ref q) st'2) _ _=_
 have:zN (.ref r) (.ref q) st'2=some (ns == ms):=by
  unfold zN
  rw[kM (bZ h5 h3) hz]
  show Op.b (uo (.ref q) st'2) _ _=_
  rw[kM h6 hz2]
  exact oh ns ms
 rw[this]
 rfl
end
noncomputable def wf (v:AV):Bool:=AV.rec (motive:=λ _=>Bool) true (λ _=>true) (λ _=>true) (λ _=>true) (λ _=>false) (λ _=>true) v
theorem gp (v:AV):wf v=flat v:=by cases v<;>rfl
noncomputable def xJ (l:List AV):Bool:=List.rec (motive:=λ _=>Bool) true (λ v _ ih=>bb (wf v) ih false) l
theorem pD:∀{l:List AV},xJ l=true->∀v∈l,flat v=true
 |[],_,_,h=>by cases h
 |v::l,h,w,hw=>by
  refine ay (show bb (wf v) (xJ l) false=true from h) λ h1 h2=>?_
  rcases List.mem_cons.mp hw with rfl|hw
  ·rw[← gp];exact h1
  ·exact pD h2 w hw
theorem m9:∀{l:List AV},(∀v∈l,flat v=true)->xJ l=true
 |[],_=>rfl
 |v::l,h=>by
  show bb (wf v) (xJ l) false=true
  rw[gp,h v aT,m9 λ w hw=>h w (ar _ hw)]
  rfl
noncomputable def tW (p:Nat)(l:List Nat):Bool:=List.rec (motive:=λ _=>Bool) false (λ q _ ih=>bb (Nat.beq q p) true ih) l
noncomputable def ndB (l:List Nat):Bool:=List.rec (motive:=λ _=>Bool) true (λ q l ih=>bb (tW q l) false ih) l
theorem kC {p:Nat}:∀{l:List Nat},tW p l=true↔p∈l
 |[]=>⟨nofun,nofun⟩
 |q::l=>by
  show bb (Nat.beq q p) true (tW p l)=true↔_
  rw[oG,List.mem_cons]
  by_cases h:q=p
  ·subst h;simp
  ·have:Nat.beq q p=false:=by
    cases z:Nat.beq q p with
    |false=>rfl
    |true=>exact absurd (aE z) h
   rw[this,if_neg (by nofun),kC]
   exact⟨.inr,λ z=>z.resolve_left λ e=>h e.symm⟩
theorem i3:∀{l:List Nat},ndB l=true↔l.Nodup
 |[]=>⟨λ _=>List.nodup_nil,λ _=>rfl⟩
 |q::l=>by
  show bb (tW q l) false (ndB l)=true↔_
  rw[oG,List.nodup_cons,← i3 (l:=l)]
  cases z:tW q l with
  |false=>rw[if_neg (by nofun)];exact⟨λ h=>⟨λ m=>absurd (z.symm.trans (kC.mpr m)) nofun,h⟩,λ h=>h.2⟩
  |true=>rw[if_pos rfl];exact⟨nofun,λ h=>absurd (kC.mp z) h.1⟩
inductive NW (st:List AO):Nat->List (AV×AV)->List Nat->List AO->List (AV×AV)->Prop
 |nil (c:Nat):NW st c [] [] [] []
 |cons {c p i s b c':Nat} {C:Addr} {k x y:AV} {sc:List AV} {kvs:List (AV×AV)} {π:List Nat} {enc:List AO} {kv:List (AV×AV)}:st[p]? =some (.inst C i [some x,some y,some (.ref s)])->st[i]? =some (.attrs c' [] b)->st[s]? =some (.list sc)->flat x=true->flat y=true->(∀v∈sc,flat v=true)->
   NW st (c+3) kvs π enc kv->NW st c ((k,.ref p)::kvs) (p::i::s::π) (.inst C (c+1) [some x,some y,some (.ref (c+2))]:: .attrs c' [] b:: .list sc::enc) ((k,.ref c)::kv)
inductive SW (st:List AO) (r:Nat):List Nat->List AO->Prop
 |fresh {j d c bd ep:Nat} {C:Addr} {a b:AV} {kd:Bool} {kvs kv:List (AV×AV)} {π:List Nat} {enc:List AO}:st[r]? =some (.inst C j [])->st[j]? =some (.attrs c [some (.ref d),some .none,some a,some b] bd)->st[d]? =some (.dict kd kvs ep)->flat a=true->flat b=true->
   NW st 3 kvs π enc kv->(r::j::d::π).Nodup->SW st r (r::j::d::π) (.inst C 1 []:: .attrs c [some (.ref 2),some .none,some a,some b] bd:: .dict kd kv ep::enc)
 |ready {j d l c bd ep:Nat} {C:Addr} {a b:AV} {kd:Bool} {rs:List AV} {kvs kv:List (AV×AV)} {π:List Nat} {enc:List AO}:st[r]? =some (.inst C j [])->st[j]? =some (.attrs c [some (.ref d),some (.ref l),some a,some b] bd)->st[d]? =some (.dict kd kvs ep)->st[l]? =some (.list rs)->flat a=true->flat b=true->(∀v∈rs,flat v=true)->
   NW st 4 kvs π enc kv->(r::j::d::l::π).Nodup->SW st r (r::j::d::l::π) (.inst C 1 []:: .attrs c [some (.ref 2),some (.ref 3),some a,some b] bd:: .dict kd kv ep:: .list rs::enc)
noncomputable def l3R (l:List AV):Option (AV×AV×Nat):=lC l none λ x l=>lC l none λ y l=>lC l none λ s l=>lE l none<|s.r none λ s=>some (x,y,s)
noncomputable def l4R (l:List AV):Option (Nat×AV×AV×AV):=lC l none λ d l=>lC l none λ x l=>lC l none λ y l=>lC l none λ s l=>lE l none<|d.r none λ d=>some (d,x,y,s)
theorem yF {l:List AV}{z}(h:l3R l=some z):l=[z.1,z.2.1,.ref z.2.2]:=lC.elim h nzO λ x _ z1 h=>lC.elim h nzO λ y _ z2 h=>lC.elim h nzO λ s _ z3 h=>lE.elim h nzO λ z4 h=>AV.r_elim h λ s z5 h=>(aj h)▸z5▸z4▸z3▸z2▸z1
theorem yE {l:List AV}{z}(h:l4R l=some z):l=[.ref z.1,z.2.1,z.2.2.1,z.2.2.2]:=lC.elim h nzO λ x _ z1 h=>lC.elim h nzO λ y _ z2 h=>lC.elim h nzO λ s _ z3 h=>lC.elim h nzO λ s _ z6 h=>lE.elim h nzO λ z4 h=>AV.r_elim h λ s z5 h=>(aj h)▸z5▸z4▸z6▸z3▸z2▸z1
section
variable(st:List AO)(p:Nat)
noncomputable def gtI:Option (Addr×Nat):=Op.b (cy st p) none λ o=>Op.b o.gI none λ q=>lN q.2.2 none (some (q.1,q.2.1))
noncomputable def gtO:Option (Addr×Nat×AV×AV×Nat):=Op.b (cy st p) none λ o=>Op.b o.gI none λ q=>Op.b (alP q.2.2) none λ l=>Op.b (l3R l) none λ w=>some (q.1,q.2.1,w)
noncomputable def gtA:Option (Nat×Nat):=Op.b (cy st p) none λ o=>Op.b o.gA none λ q=>lN q.2.1 none (some (q.1,q.2.2))
noncomputable def gtB:Option (Nat×Nat×Nat×AV×AV×AV):=Op.b (cy st p) none λ o=>Op.b o.gA none λ q=>Op.b (alP q.2.1) none λ l=>Op.b (l4R l) none λ w=>some (q.1,q.2.2,w)
noncomputable def gtD:Option (Bool×List (AV×AV)×Nat):=Op.b (cy st p) none λ o=>o.gD
noncomputable def gtL:Option (List AV):=Op.b (cy st p) none λ o=>o.gL
variable{st p}
theorem yP {z}(h:gtI st p=some z):st[p]? =some (.inst z.1 z.2 []):=Op.elim h λ o e h=>Op.elim h λ q g h=>lN.elim h nzO λ w h=>(aj h)▸d8 e ((AO.gI_ok g).trans (congrArg _ w))
theorem yS {z}(h:gtA st p=some z):st[p]? =some (.attrs z.1 [] z.2):=Op.elim h λ o e h=>Op.elim h λ q g h=>lN.elim h nzO λ w h=>(aj h)▸d8 e ((AO.gA_ok g).trans (congrArg (AO.attrs _ · _) w))
theorem yO {z}(h:gtO st p=some z):st[p]? =some (.inst z.1 z.2.1 [some z.2.2.1,some z.2.2.2.1,some (.ref z.2.2.2.2)]):=Op.elim h λ o e h=>Op.elim h λ q g h=>Op.elim h λ l w h=>Op.elim h λ v x h=>(aj h)▸d8 e ((AO.gI_ok g).trans (congrArg _ ((pU w).trans (congrArg (List.map some) (yF x)))))
theorem yR {z}(h:gtB st p=some z):st[p]? =some (.attrs z.1 [some (.ref z.2.2.1),some z.2.2.2.1,some z.2.2.2.2.1,some z.2.2.2.2.2] z.2.1):=Op.elim h λ o e h=>Op.elim h λ q g h=>Op.elim h λ l w h=>Op.elim h λ v x h=>(aj h)▸d8 e ((AO.gA_ok g).trans (congrArg (AO.attrs _ · _) ((pU w).trans (congrArg (List.map some) (yE x)))))
theorem yQ {z}(h:gtD st p=some z):st[p]? =some (.dict z.1 z.2.1 z.2.2):=Op.elim h λ o e h=>d8 e (AO.gD_ok h)
theorem uh {z}(h:gtL st p=some z):st[p]? =some (.list z):=Op.elim h λ o e h=>d8 e (AO.gL_ok h)
theorem iA {o:AO}{β:Type}{n:β}{k:AO->β}(e:st[p]? =some o):Op.b (cy st p) n k=k o:=by rw[aS,e];rfl
end
noncomputable def nwS (st:List AO)(k:AV)(p c:Nat)(rest:Option (List Nat×List AO×List (AV×AV))):Option (List Nat×List AO×List (AV×AV)):=
 Op.b (gtO st p) none λ q=>Op.b (gtA st q.2.1) none λ a=>Op.b (gtL st q.2.2.2.2) none λ sc=>
 bb (wf q.2.2.1) (bb (wf q.2.2.2.1) (bb (xJ sc) (Op.b rest none λ z=>some (p::q.2.1::q.2.2.2.2::z.1,.inst q.1 (c+1) [some q.2.2.1,some q.2.2.2.1,some (.ref (c+2))]:: .attrs a.1 [] a.2:: .list sc::z.2.1,(k,.ref c)::z.2.2)) none) none) none
noncomputable def nwF (st:List AO)(kvs:List (AV×AV)):Nat->Option (List Nat×List AO×List (AV×AV)):=List.rec (motive:=λ _=>Nat->Option (List Nat×List AO×List (AV×AV))) (λ _=>some ([],[],[]))
 (λ kp _ ih c=>kp.2.r none λ p=>nwS st kp.1 p c (ih (c+3))) kvs
theorem flE {v:AV}(h:wf v=true):flat v=true:=(gp _).symm.trans h
theorem pn {st:List AO}:∀{kvs:List (AV×AV)} {c:Nat} {z:List Nat×List AO×List (AV×AV)},nwF st kvs c=some z->NW st c kvs z.1 z.2.1 z.2.2
 |[],c,z,h=>by cases h;exact .nil c
 |(k,v)::kvs,c,z,h=>by
  refine AV.r_elim (show v.r none (λ p=>nwS st k p c (nwF st kvs (c+3)))=some z from h) λ p e h=>?_
  subst e
  exact Op.elim h λ q e1 h=>Op.elim h λ a e2 h=>Op.elim h λ sc e3 h=>ay h λ f1 h=>ay h λ f2 h=>ay h λ f3 h=>Op.elim h λ z' h4 h5=>(aj h5)▸NW.cons (yO e1) (yS e2) (uh e3) (flE f1) (flE f2) (pD f3) (pn h4)
theorem tM {st:List AO}{c:Nat}{kvs:List (AV×AV)}{π:List Nat}{enc:List AO}{kv:List (AV×AV)}(h:NW st c kvs π enc kv):nwF st kvs c=some (π,enc,kv):=by
 induction h with
 |nil c=>rfl
 |@cons c p i s b c' C k x y sc kvs π enc kv e1 e2 e3 f1 f2 f3 _ ih=>exact Op.bs (a:=(C,i,x,y,s)) (iA e1) (Op.bs (a:=(c',b)) (iA e2) (Op.bs (iA e3) (lF ((gp _).trans f1) (lF ((gp _).trans f2) (lF (m9 f3) (Op.bs ih rfl))))))
noncomputable def selP (r j d:Nat)(C:Addr)(c bd:Nat)(a b:AV)(kd:Bool)(ep:Nat)(z:List Nat×List AO×List (AV×AV)):Option (List Nat×List AO):=bb (ndB (r::j::d::z.1)) (some (r::j::d::z.1,.inst C 1 []:: .attrs c [some (.ref 2),some .none,some a,some b] bd:: .dict kd z.2.2 ep::z.2.1)) none
noncomputable def selQ (r j d l:Nat)(C:Addr)(c bd:Nat)(a b:AV)(kd:Bool)(ep:Nat)(rs:List AV)(z:List Nat×List AO×List (AV×AV)):Option (List Nat×List AO):=bb (ndB (r::j::d::l::z.1)) (some (r::j::d::l::z.1,.inst C 1 []:: .attrs c [some (.ref 2),some (.ref 3),some a,some b] bd:: .dict kd z.2.2 ep:: .list rs::z.2.1)) none
noncomputable def selC (r:Nat)(st:List AO)(q:Addr×Nat)(t:Nat×Nat×Nat×AV×AV×AV)(k:Bool×List (AV×AV)×Nat):Option (List Nat×List AO):=
 AV.casesOn (motive:=λ _=>Option (List Nat×List AO)) t.2.2.2.1 (Op.b (nwF st k.2.1 3) none (selP r q.2 t.2.2.1 q.1 t.1 t.2.1 t.2.2.2.2.1 t.2.2.2.2.2 k.1 k.2.2)) (λ _=>none) (λ _=>none) (λ _=>none)
  (λ l=>Op.b (gtL st l) none λ rs=>bb (xJ rs) (Op.b (nwF st k.2.1 4) none (selQ r q.2 t.2.2.1 l q.1 t.1 t.2.1 t.2.2.2.2.1 t.2.2.2.2.2 k.1 k.2.2 rs)) none) (λ _=>none)
noncomputable def fY (r:Nat)(st:List AO):Option (List Nat×List AO):=
 Op.b (gtI st r) none λ q=>Op.b (gtB st q.2) none λ t=>Op.b (gtD st t.2.2.1) none λ k=>bb (wf t.2.2.2.2.1) (bb (wf t.2.2.2.2.2) (selC r st q t k) none) none
theorem vC {r:Nat}{st:List AO}{q:Addr×Nat}{c bd d:Nat}{e a b:AV}{k:Bool×List (AV×AV)×Nat}{z:List Nat×List AO}(e1:st[r]? =some (.inst q.1 q.2 []))(e2:st[q.2]? =some (.attrs c [some (.ref d),some e,some a,some b] bd))(e3:st[d]? =some (.dict k.1 k.2.1 k.2.2))(f1:flat a=true)(f2:flat b=true)
  (h:selC r st q (c,bd,d,e,a,b) k=some z):SW st r z.1 z.2:=by
 cases e with
 |none=>exact Op.elim h λ w h4 h5=>ay h5 λ f3 h6=>(aj h6)▸SW.fresh e1 e2 e3 f1 f2 (pn h4) (i3.mp f3)
 |ref l=>exact Op.elim h λ rs g5 h=>ay h λ f4 h=>Op.elim h λ w h4 h5=>ay h5 λ f3 h6=>(aj h6)▸SW.ready e1 e2 e3 (uh g5) f1 f2 (pD f4) (pn h4) (i3.mp f3)
 |_=>exact absurd h nofun
theorem eG {st:List AO}{r:Nat}{π:List Nat}{enc:List AO}(h:fY r st=some (π,enc)):SW st r π enc:=
 Op.elim h λ q e1 h=>Op.elim h λ t e2 h=>Op.elim h λ k e3 h=>ay h λ f1 h=>ay h λ f2 h=>vC (yP e1) (yR e2) (yQ e3) (flE f1) (flE f2) h
theorem jU {st:List AO}{r:Nat}{π:List Nat}{enc:List AO}(h:SW st r π enc):fY r st=some (π,enc):=by
 cases h with
 |@fresh j d c bd ep C a b kd kvs kv π enc e1 e2 e3 f1 f2 w nd=>exact Op.bs (a:=(C,j)) (iA e1) (Op.bs (a:=(c,bd,d,AV.none,a,b)) (iA e2) (Op.bs (a:=(kd,kvs,ep)) (iA e3) (lF ((gp _).trans f1) (lF ((gp _).trans f2) (Op.bs (tM w) (lF (i3.mpr nd) rfl))))))
 |@ready j d l c bd ep C a b kd rs kvs kv π enc e1 e2 e3 e4 f1 f2 f3 w nd=>exact Op.bs (a:=(C,j)) (iA e1) (Op.bs (a:=(c,bd,d,AV.ref l,a,b)) (iA e2) (Op.bs (a:=(kd,kvs,ep)) (iA e3) (lF ((gp _).trans f1) (lF ((gp _).trans f2) (Op.bs (iA e4) (lF (m9 f3) (Op.bs (tM w) (lF (i3.mpr nd) rfl))))))))
theorem dE {f:Nat->Nat}{v:AV}(h:flat v=true):ko f v=v:=by cases v<;>first|rfl|cases h
theorem fz {f:Nat->Nat}:∀{l:List AV},(∀v∈l,flat v=true)->l.map (ko f)=l
 |[],_=>rfl
 |v::l,h=>by rw[bg,dE (h v aT),fz λ w hw=>h w (ar _ hw)]
theorem NW.rn {st st':List AO}{f:Nat->Nat}{c:Nat}{kvs:List (AV×AV)}{π:List Nat}{enc:List AO}{kv:List (AV×AV)}(h:NW st c kvs π enc kv)(H:∀(p:Nat) (o:AO),p∈π->st[p]? =some o->st'[f p]? =some (kq f o)):
  NW st' c (kvs.map λ p=>(p.1,ko f p.2)) (π.map f) enc kv:=by
 induction h with
 |nil c=>exact .nil c
 |cons e1 e2 e3 f1 f2 f3 _ ih=>
  refine .cons ?_ ?_ ?_ f1 f2 f3 (ih λ p o hp=>H p o (ar _ (ar _ (ar _ hp))))
  ·rw[H _ _ (by simp) e1]
   simp only[kq,bg,List.map_nil,pc,Option.map_some,dE f1,dE f2]
   rfl
  ·rw[H _ _ (by simp) e2];rfl
  ·rw[H _ _ (by simp) e3]
   simp only[kq,fz f3]
theorem SW.rn {st st':List AO}{f:Nat->Nat}{r:Nat}{π:List Nat}{enc:List AO}(h:SW st r π enc)(H:∀(p:Nat) (o:AO),p∈π->st[p]? =some o->st'[f p]? =some (kq f o))(hn:(π.map f).Nodup):SW st' (f r) (π.map f) enc:=by
 cases h with
 |fresh e1 e2 e3 f1 f2 w nd=>
  refine .fresh ?_ ?_ ?_ f1 f2 (w.rn λ p o hp=>H p o (ar _ (ar _ (ar _ hp)))) hn
  ·rw[H _ _ (by simp) e1];rfl
  ·rw[H _ _ (by simp) e2]
   simp only[kq,bg,List.map_nil,pc,Option.map_some,dE f1,dE f2]
   rfl
  ·rw[H _ _ (by simp) e3];rfl
 |ready e1 e2 e3 e4 f1 f2 f3 w nd=>
  refine .ready ?_ ?_ ?_ ?_ f1 f2 f3 (w.rn λ p o hp=>H p o (ar _ (ar _ (ar _ (ar _ hp))))) hn
  ·rw[H _ _ (by simp) e1];rfl
  ·rw[H _ _ (by simp) e2]
   simp only[kq,bg,List.map_nil,pc,Option.map_some,dE f1,dE f2]
   rfl
  ·rw[H _ _ (by simp) e3];rfl
  ·rw[H _ _ (by simp) e4]
   simp only[kq,fz f3]
theorem NW.keep {st st':List AO}{c:Nat}{kvs:List (AV×AV)}{π:List Nat}{enc:List AO}{kv:List (AV×AV)}(h:NW st c kvs π enc kv)(H:∀(p:Nat),p∈π->st'[p]? =st[p]?):NW st' c kvs π enc kv:=by
 induction h with
 |nil c=>exact .nil c
 |cons e1 e2 e3 f1 f2 f3 _ ih=>exact .cons ((H _ (by simp)).trans e1) ((H _ (by simp)).trans e2) ((H _ (by simp)).trans e3) f1 f2 f3 (ih λ p hp=>H p (ar _ (ar _ (ar _ hp))))
theorem SW.keep {st st':List AO}{r:Nat}{π:List Nat}{enc:List AO}(h:SW st r π enc)(H:∀(p:Nat),p∈π->st'[p]? =st[p]?):SW st' r π enc:=by
 cases h with
 |fresh e1 e2 e3 f1 f2 w nd=>exact .fresh ((H _ (by simp)).trans e1) ((H _ (by simp)).trans e2) ((H _ (by simp)).trans e3) f1 f2 (w.keep λ p hp=>H p (ar _ (ar _ (ar _ hp)))) nd
 |ready e1 e2 e3 e4 f1 f2 f3 w nd=>exact .ready ((H _ (by simp)).trans e1) ((H _ (by simp)).trans e2) ((H _ (by simp)).trans e3) ((H _ (by simp)).trans e4) f1 f2 f3 (w.keep λ p hp=>H p (ar _ (ar _ (ar _ (ar _ hp))))) nd
theorem NW.lt {st:List AO}{c:Nat}{kvs:List (AV×AV)}{π:List Nat}{enc:List AO}{kv:List (AV×AV)}(h:NW st c kvs π enc kv):∀(p:Nat),p∈π->p<st.length:=by
 induction h with
 |nil c=>intro p hp;cases hp
 |cons e1 e2 e3 f1 f2 f3 _ ih=>
  intro p hp
  simp only[List.mem_cons]at hp
  rcases hp with rfl|rfl|rfl|hp
  ·exact(aa.mp e1).1
  ·exact(aa.mp e2).1
  ·exact(aa.mp e3).1
  ·exact ih p hp
theorem SW.lt {st:List AO}{r:Nat}{π:List Nat}{enc:List AO}(h:SW st r π enc):∀(p:Nat),p∈π->p<st.length:=by
 intro p hp
 cases h with
 |fresh e1 e2 e3 f1 f2 w nd=>
  simp only[List.mem_cons]at hp
  rcases hp with rfl|rfl|rfl|hp
  ·exact(aa.mp e1).1
  ·exact(aa.mp e2).1
  ·exact(aa.mp e3).1
  ·exact w.lt p hp
 |ready e1 e2 e3 e4 f1 f2 f3 w nd=>
  simp only[List.mem_cons]at hp
  rcases hp with rfl|rfl|rfl|rfl|hp
  ·exact(aa.mp e1).1
  ·exact(aa.mp e2).1
  ·exact(aa.mp e3).1
  ·exact(aa.mp e4).1
  ·exact w.lt p hp
noncomputable def OS:ei:=⟨fY,λ h H=>jU ((eG h).keep H),λ h=>(eG h).lt⟩
theorem qr {π:List Nat}{i p:Nat}(h:π[i]? =some p):rf π i=p:=by unfold rf;rw[aG,h];rfl
theorem NW.iso {st:List AO}{c:Nat}{kvs:List (AV×AV)}{π:List Nat}{enc:List AO}{kv:List (AV×AV)}(h:NW st c kvs π enc kv){π0:List Nat}(hd:∀i:Nat,π[i]? =π0[c+i]?):
  enc.length=π.length/\(∀(i p:Nat) (o:AO),π[i]? =some p->enc[i]? =some o->st[p]? =some (kq (rf π0) o))/\(∀o∈enc,okO π0.length o)/\kvs=kv.map (λ p=>(p.1,ko (rf π0) p.2))/\∀p∈kv,pj π0.length p.2:=by
 induction h with
 |nil c=>exact⟨rfl,λ i p o e=>(by cases e),λ o e=>(by cases e),rfl,λ p e=>(by cases e)⟩
 |@cons c p i s b c' C k x y sc kvs π enc kv e1 e2 e3 f1 f2 f3 _ ih=>
  have h0:π0[c]? =some p:=(hd 0).symm.trans rfl
  have h1:π0[c+1]? =some i:=(hd 1).symm.trans rfl
  have h2:π0[c+2]? =some s:=(hd 2).symm.trans rfl
  have hl:∀{j q:Nat},π0[j]? =some q->j<π0.length:=λ e=>(aa.mp e).1
  refine ou (ih λ j=>by
   have:=hd (j+3)
   rw[show c+3+j=c+(j+3)by exact ω142,← this]
   rfl) λ g1 g2 g3 g4 g5=>?_
  refine⟨by simp[g1],λ j q o a b=>?_,λ o ho=>?_,?_,λ q hq=>?_⟩
  ·match j,a,b with
   |0,a,b=>
    cases a;cases b
    rw[e1]
    simp only[kq,bg,List.map_nil,pc,Option.map_some,dE f1,dE f2,qr h1]
    rw[show ko (rf π0) (.ref (c+2))= .ref s from congrArg AV.ref (qr h2)]
   |1,a,b=>cases a;cases b;rw[e2];rfl
   |2,a,b=>cases a;cases b;rw[e3];simp only[kq,fz f3]
   |j+3,a,b=>exact g2 j q o a b
  ·simp only[List.mem_cons]at ho
   have okf:∀{v:AV},flat v=true->pj π0.length v:=λ{v} h=>by cases v<;>first|trivial|cases h
   rcases ho with rfl|rfl|rfl|ho
   ·refine⟨hl h1,λ z hz v hv=>?_⟩
    simp only[List.mem_cons,bh,or_false]at hz
    rcases hz with rfl|rfl|rfl
    ·cases hv;exact okf f1
    ·cases hv;exact okf f2
    ·cases hv;exact hl h2
   ·intro z hz;cases hz
   ·exact λ v hv=>okf (f3 v hv)
   ·exact g3 o ho
  ·rw[bg,← g4]
   simp only[ko,qr h0]
  ·rcases List.mem_cons.mp hq with rfl|hq
   ·exact hl h0
   ·exact g5 q hq
theorem SW.iso {st:List AO}{r:Nat}{π:List Nat}{enc:List AO}(h:SW st r π enc){fl:List AV}(hf:∀v∈fl,flat v=true):oR π enc (.ref 0::fl) (.ref r::fl) st/\π[0]? =some r:=by
 have okf:∀{n:Nat} {v:AV},flat v=true->pj n v:=λ{n v} h=>by cases v<;>first|trivial|cases h
 have cv:∀{π:List Nat},0<π.length->∀v∈(AV.ref 0::fl),pj π.length v:=λ hp v hv=>by
  rcases List.mem_cons.mp hv with rfl|hv
  ·exact hp
  ·exact okf (hf v hv)
 have vs:∀{π:List Nat},π[0]? =some r->(AV.ref r::fl)=(AV.ref 0::fl).map (ko (rf π)):=λ hp=>by
  rw[bg,fz hf]
  simp only[ko,qr hp]
 cases h with
 |@fresh j d c bd ep C a b kd kvs kv π enc e1 e2 e3 f1 f2 w nd=>
  obtain⟨g1,g2,g3,g4,g5⟩:=w.iso (π0:=r::j::d::π) λ i=>by rw[show 3+i=i+3 by exact ω143];rfl
  refine⟨⟨by simp[g1],nd,λ i p o x y=>?_,vs rfl,λ o ho=>?_,cv (by simp)⟩,rfl⟩
  ·match i,x,y with
   |0,x,y=>cases x;cases y;rw[e1];rfl
   |1,x,y=>
    cases x;cases y;rw[e2]
    simp only[kq,bg,List.map_nil,pc,Option.map_some,dE f1,dE f2]
    rfl
   |2,x,y=>cases x;cases y;rw[e3,g4];rfl
   |i+3,x,y=>exact g2 i p o x y
  ·simp only[List.mem_cons]at ho
   rcases ho with rfl|rfl|rfl|ho
   ·exact⟨by simp,λ z hz=>by cases hz⟩
   ·intro z hz v hv
    simp only[List.mem_cons,bh,or_false]at hz
    rcases hz with rfl|rfl|rfl|rfl
    ·cases hv;simp[pj]
    ·cases hv;trivial
    ·cases hv;exact okf f1
    ·cases hv;exact okf f2
   ·exact g5
   ·exact g3 o ho
 |@ready j d l c bd ep C a b kd rs kvs kv π enc e1 e2 e3 e4 f1 f2 f3 w nd=>
  obtain⟨g1,g2,g3,g4,g5⟩:=w.iso (π0:=r::j::d::l::π) λ i=>by rw[show 4+i=i+4 by exact ω144];rfl
  refine⟨⟨by simp[g1],nd,λ i p o x y=>?_,vs rfl,λ o ho=>?_,cv (by simp)⟩,rfl⟩
  ·match i,x,y with
   |0,x,y=>cases x;cases y;rw[e1];rfl
   |1,x,y=>
    cases x;cases y;rw[e2]
    simp only[kq,bg,List.map_nil,pc,Option.map_some,dE f1,dE f2]
    rfl
   |2,x,y=>cases x;cases y;rw[e3,g4];rfl
   |3,x,y=>cases x;cases y;rw[e4];simp only[kq,fz f3]
   |i+4,x,y=>exact g2 i p o x y
  ·simp only[List.mem_cons]at ho
   rcases ho with rfl|rfl|rfl|rfl|ho
   ·exact⟨by simp,λ z hz=>by cases hz⟩
   ·intro z hz v hv
    simp only[List.mem_cons,bh,or_false]at hz
    rcases hz with rfl|rfl|rfl|rfl
    ·cases hv;simp[pj]
    ·cases hv;simp[pj]
    ·cases hv;exact okf f1
    ·cases hv;exact okf f2
   ·exact g5
   ·exact λ v hv=>okf (f3 v hv)
   ·exact g3 o ho
noncomputable def fJ (vs:List AV)(st:List AO):Option Sel:=match vs with
 |.ref r::rest=>Op.b (fY r st) none λ z=>bb (xJ rest) (some ⟨z.1,z.2,.ref 0::rest⟩) none
 |_=>none
section
variable{st st2:List AO}{π:List Nat}
theorem vS:(mM st π st2).length=st.length+(st2.length - π.length):=by unfold mM;rw[aD,List.length_range]
theorem vR {p:Nat}(hp:p<st.length)(hn:p∉π):(mM st π st2)[p]? =st[p]? :=by
 unfold mM
 rw[aB,List.getElem?_range (by exact xe hp)]
 show some (i4 st π st2 p)=_
 unfold i4
 rw[if_pos hp,if_neg hn,aG,ae hp]
 rfl
theorem lW {st:List AO}{r j c b b':Nat}{C C0:Addr}{vs vs':List (Option AV)}{l:List AO}(e1:st[r]? =some (.inst C j []))(e2:st[j]? =some (.attrs c vs b))(h:bV C0 (.ref 0) (.inst C 1 []:: .attrs c vs' b'::l)=true):bV C0 (.ref r) st=true:=by
 show inA r st false (λ C j _=>bb (Nat.beq C C0) (atA j st false λ c _ _=>Nat.beq c C0) false)=true
 rw[ud e1]
 show bb (Nat.beq C C0) (atA j st false _) false=true
 rw[u7 e2]
 exact h
theorem qu (hn:π.Nodup)(hl:∀p∈π,p<st.length){t:Nat}{o:AO}(h:st2[t]? =some o):(mM st π st2)[bk π st.length t]? =some (kq (bk π st.length) o):=by
 have ht:=(aa.mp h).1
 have hg:st2.getD t .any=o:=by rw[aG,h];rfl
 by_cases q:t<π.length
 ·have e:bk π st.length t=π[t]:=by unfold bk;rw[if_pos q,aG,ae q];rfl
  have hm:π[t]∈π:=List.getElem_mem _
  have hlt:=hl _ hm
  rw[e]
  unfold mM
  rw[aB,List.getElem?_range (by exact xe hlt)]
  show some (i4 st π st2 π[t])=_
  unfold i4
  have hi:π.idxOf π[t]=t:=dX hn (by rw[ae (List.idxOf_lt_length_iff.mpr hm),List.getElem_idxOf]) (ae q)
  rw[if_pos hlt,if_pos hm,hi,hg]
 ·have e:bk π st.length t=st.length+(t - π.length):=if_neg q
  rw[e]
  unfold mM
  rw[aB,List.getElem?_range (by exact ω146 ht q)]
  show some (i4 st π st2 _)=_
  unfold i4
  rw[if_neg (by exact xp),show π.length+(st.length+(t - π.length) - st.length)=t by exact ω136 q,hg]
theorem uY (t:Nat)(L:Nat):bk π L t∈π∨L<=bk π L t:=by
 unfold bk
 split
 ·rename_i q
  rw[aG,ae q]
  exact .inl (List.getElem_mem _)
 ·exact .inr (aZ _ _)
theorem zk (hn:π.Nodup)(hl:∀p∈π,p<st.length){s t:Nat}(h:bk π st.length s=bk π st.length t):s=t:=by
 have key:∀{a:Nat},(a<π.length/\π[a]? =some (bk π st.length a)/\bk π st.length a<st.length)∨(π.length<=a/\bk π st.length a=st.length+(a - π.length)):=λ{a}=>by
  by_cases q:a<π.length
  ·have e:bk π st.length a=π[a]:=by unfold bk;rw[if_pos q,aG,ae q];rfl
   exact .inl ⟨q,by rw[e,ae q],by rw[e];exact hl _ (List.getElem_mem _)⟩
  ·exact .inr ⟨Nat.le_of_not_lt q,if_neg q⟩
 rcases key (a:=s)with⟨a1,a2,a3⟩|⟨a1,a2⟩<;>rcases key (a:=t)with⟨b1,b2,b3⟩|⟨b1,b2⟩
 ·rw[h]at a2;exact dX hn a2 b2
 ·exact ω137 a3 h b2
 ·exact ω138 b3 h a2
 ·exact ω139 a2 h a1 b1 b2
theorem oE {L:Nat}:(List.range π.length).map (bk π L)=π:=by
 apply List.ext_getElem?
 intro i
 rw[aB]
 by_cases h:i<π.length
 ·rw[List.getElem?_range h]
  show some (bk π L i)=_
  unfold bk
  rw[if_pos h,aG,ae h]
  rfl
 ·rw[aK.mpr (by simpa using h),aK.mpr (Nat.le_of_not_lt h)]
  rfl
end
section
variable{D:Dn}{X W:Nat->Prop}{env:VE}{σ:AS}{o:pV}
open Classical in
theorem lQ {C0:Addr}{d0 s r:Nat}{kt:Nat->Option (List AV)}{g:RG}{π π2:List Nat}{enc enc' st2:List AO}{fl:List AV}{v:AV}(h:env[s]? =some (some (.obj r π enc)))(hn:D.hn=true)(hd:d0+1<=D.d)(hI:bV C0 (.ref 0) enc=true)
  (hf:∀v∈fl,flat v=true) (hg:g d0 true kt (.ref 0::fl) enc=some (v,st2)) (hs:fY 0 st2=some (π2,enc')) (R:Rel OS D X W env σ):
  ∃st',cV s D σ= .ok (.ref r) σ/\bV C0 (.ref r) σ.st=true/\fK d0 kt fJ g D (.ref r::fl) σ= .ok (ko (bk π σ.st.length) v) ⟨st',σ.fr⟩/\Rel OS D X W (env.set s (some (.obj r (π2.map (bk π σ.st.length)) enc'))) ⟨st',σ.fr⟩/\KW (MW X W env) σ.st st'/\
   (∀p,bl X W (env.set s (some (.obj r (π2.map (bk π σ.st.length)) enc'))) p->bl X W env p∨σ.st.length<=p)/\∀(t:Nat) (o:AO),st2[t]? =some o->st'[bk π σ.st.length t]? =some (kq (bk π σ.st.length) o):=by
 refine bW (R.at' s _ h) λ v0 h1 z1_ h2=>?_;subst z1_
 have h2:fY r σ.st=some (π,enc):=h2
 have w:=eG h2
 refine eA (w.iso hf) λ I hr=>?_
 have hi:=(aa.mp h).1
 have hpl:∀p∈π,¬X p/\¬W p/\∀(j:Nat) (w':VV),env[j]? =some (some w')->p∈pl w'->s=j:=λ p hp=>R.dis s _ p h hp
 have hft:∀p∈π,bl X W env p:=λ p hp=>.inr (.inr ⟨s,_,h,hp⟩)
 have hlt:∀p∈π,p<σ.st.length:=w.lt
 have hold:∀p,p<σ.st.length->p∉π->(mM σ.st π st2)[p]? =σ.st[p]? :=λ p hp hn=>vR hp hn
 have hin:∀p∈π2.map (bk π σ.st.length),p∈π∨σ.st.length<=p:=λ p hp=>by
  refine aQ (List.mem_map.mp hp) λ t _ z1_=>?_;subst z1_
  exact uY t _
 have sub:∀p,bl X W (env.set s (some (.obj r (π2.map (bk π σ.st.length)) enc'))) p->bl X W env p∨σ.st.length<=p:=λ p hp=>by
  rcases hp with hp|hp|⟨j,w',e,hp⟩
  ·exact .inl (.inl hp)
  ·exact .inl (.inr (.inl hp))
  ·rcases bD e with⟨rfl,q⟩|⟨_,e⟩
   ·cases q
    exact(hin p hp).elim (λ z=>.inl (hft p z)) .inr
   ·exact .inl (.inr (.inr ⟨j,w',e,hp⟩))
 have w2:=eG hs
 have nd2:(π2.map (bk π σ.st.length)).Nodup:=by
  have:π2.Nodup:=by cases w2<;>assumption
  refine List.pairwise_map.mpr (this.imp λ hne e=>hne (zk I.nd hlt e))
 have w':SW (mM σ.st π st2) (bk π σ.st.length 0) (π2.map (bk π σ.st.length)) enc':=w2.rn (λ p o _ e=>qu I.nd hlt e) nd2
 have hb0:bk π σ.st.length 0=r:=by
  have:0<π.length:=(aa.mp hr).1
  unfold bk
  rw[if_pos this,aG,hr]
  rfl
 rw[hb0]at w'
 have hle:σ.st.length<=(mM σ.st π st2).length:=by rw[vS];exact ω140
 refine⟨mM σ.st π st2,jI h1,?_,?_,?_,⟨hle,λ p hp hm=>hold p hp λ z=>hm ⟨hft p z,(hpl p z).1⟩⟩,sub,λ t o e=>qu I.nd hlt e⟩
 ·cases w with
  |fresh e1 e2 _ _ _ _ _=>
   exact lW e1 e2 hI
  |ready e1 e2 _ _ _ _ _ _ _=>
   exact lW e1 e2 hI
 ·unfold fK
  rw[hn,aF hd]
  show Op.b (fJ (.ref r::fl) σ.st) _ _=_
  have e:fJ (.ref r::fl) σ.st=some ⟨π,enc,.ref 0::fl⟩:=by
   show Op.b (fY r σ.st) none (λ z=>bb (xJ fl) (some (⟨z.1,z.2,.ref 0::fl⟩:Sel)) none)=_
   rw[h2,m9 hf]
   rfl
  rw[e]
  show(if oR π enc (.ref 0::fl) (.ref r::fl) σ.st then Op.b (g d0 true kt (.ref 0::fl) enc) _ _ else _)=_
  rw[if_pos I,hg]
  rfl
 ·refine⟨by simpa using R.len,λ p hp=>?_,R.xw,λ j w1 p e hp=>?_,λ j k e hk=>?_,R.cnd,R.csx,λ j w1 e=>?_⟩
  ·show p<(mM σ.st π st2).length
   rcases hp with hp|hp|⟨j,w1,e,hp⟩
   ·exact aN (R.lt p (.inl hp)) hle
   ·exact aN (R.lt p (.inr (.inl hp))) hle
   ·rcases bD e with⟨rfl,q⟩|⟨_,e⟩
    ·cases q
     exact w'.lt p hp
    ·exact aN (R.lt p (.inr (.inr ⟨j,w1,e,hp⟩))) hle
  ·have other:∀(l:Nat) (w2:VV),env[l]? =some (some w2)->p∈pl w2->∀q∈π2.map (bk π σ.st.length),q=p->s=l:=λ l w2 e2 p2 q hq e3=>by
    subst e3
    rcases hin _ hq with z|z
    ·exact(hpl _ z).2.2 l w2 e2 p2
    ·have:=R.lt q (.inr (.inr ⟨l,w2,e2,p2⟩));exact ω141 this z
   rcases bD e with⟨rfl,q⟩|⟨hj,e⟩
   ·cases q
    have hp:p∈π2.map (bk π σ.st.length):=hp
    refine⟨λ x=>?_,λ x=>?_,λ l w2 e2 p2=>?_⟩
    ·rcases hin p hp with z|z
     ·exact(hpl p z).1 x
     ·have:=R.lt p (.inl x);exact ej this z
    ·rcases hin p hp with z|z
     ·exact(hpl p z).2.1 x
     ·have:=R.lt p (.inr (.inl x));exact ej this z
    ·rcases bD e2 with⟨rfl,_⟩|⟨_,e2⟩
     ·rfl
     ·exact other l w2 e2 p2 p hp rfl
   ·refine fT (R.dis j w1 p e hp) λ a b c=>?_
    refine⟨a,b,λ l w2 e2 p2=>?_⟩
    rcases bD e2 with⟨rfl,q⟩|⟨_,e2⟩
    ·cases q
     exact(other j w1 e hp p p2 rfl).symm
    ·exact c l w2 e2 p2
  ·refine eE (R.cel j k e hk) λ z hz=>?_
   exact⟨z,(hold k (aa.mp hz).1 λ q=>(hpl k q).2.1 hk).trans hz⟩
  ·have gv:∀{j:Nat} {v:AV},bG D.cs σ j=some v->bG D.cs ⟨mM σ.st π st2,σ.fr⟩ j=some v:=λ{j v} g0=>by
    unfold bG at g0 ⊢
    cases q:D.cs[j]? with
    |none=>rw[q]at g0;exact g0
    |some z=>
     rw[q]at g0
     cases z with
     |none=>exact g0
     |some k=>
      dsimp only at g0 ⊢
      have hk:=R.csx j k q
      have:k∉π:=λ z=>hk.elim (hpl k z).1 (hpl k z).2.1
      rw[hold k (R.lt k (hk.elim .inl λ z=>.inr (.inl z))) this]
      exact g0
   rcases bD e with⟨rfl,q⟩|⟨hj,e⟩
   ·cases q
    exact⟨_,gv h1,rfl,jU w'⟩
   ·refine aQ (R.at' j w1 e) λ v1 g1 k1=>?_
    refine⟨v1,gv g1,k1.mono (λ p o e2 q=>?_) (λ p hp=>hold p (R.lt p (.inr (.inr ⟨j,w1,e,hp⟩))) λ z=>hj ((hpl p z).2.2 j w1 e hp)) λ p hp=>⟨hp,hold p (R.lt p (.inl hp)) λ z=>(hpl p z).1 hp⟩⟩
    have hp:=(aa.mp e2).1
    refine⟨(hold p hp λ z=>q (hft p z)).trans e2,λ z=>?_⟩
    rcases sub p z with z|z
    ·exact q z
    ·exact ej hp z
end
section
variable{O:ei}{D:Dn}{X W:Nat->Prop}{env:VE}{σ:AS}{o:pV}
noncomputable def zK (O:ei)(D:Dn)(X W:Nat->Prop)(env:VE)(l:LF)(fl:List AV):Prop:=∀σ,Rel O D X W env σ->∃st',l D σ= .ok fl ⟨st',σ.fr⟩/\σ.st<+:st'
theorem i9:zK O D X W env aI []:=λ σ R=>⟨σ.st,rfl,ah _⟩
theorem kU {a:EF}{l:LF}{v:AV}{fl:List AV}(ha:EX O D X W env a 0 v)(hl:zK O D X W env l fl):zK O D X W env (aq a l) (v::fl):=λ σ R=>by
 refine bz (ha σ R) λ w st'1 h1 h2 z1_ _=>?_;subst z1_
 refine aQ (hl _ (R.grow h2)) λ st'2 h3 h4=>?_
 refine⟨st'2,?_,h2.trans h4⟩
 unfold aq
 rw[h1]
 show(l D ⟨st'1,σ.fr⟩).b _ _=_
 rw[h3]
 rfl
theorem uA {a:EF}{fl:List AV}(ha:EL O D X W env a 0 fl)(hz:fl.length<=1000):zK O D X W env (n8 a aI) fl:=λ σ R=>by
 refine b5 (ha σ R) λ r vs st' h1 h2 hW h3 hu=>?_
 refine eA (Us.flat hu) λ z1_ _=>?_;subst z1_
 refine⟨st',?_,h2⟩
 unfold n8
 rw[h1]
 show Op.b (iS (.ref r) st') _ _=_
 have h5:iS (.ref r) st'=some vs:=by
  exact sT h3 (aF (by unfold big;exact gG hz))
 rw[h5]
 show RS.ok (vs++[]) _=_
 rw[List.append_nil]
theorem yU {i:Nat}{v:AV}(hi:i<σ.fr.length)(hc:∀k,D.cs[i]? =some (some k)->W k/\∃z,σ.st[k]? =some (AO.cell z)):
  ∃σ',gV i D v σ= .ok σ'/\KW W σ.st σ'.st/\σ'.st.length=σ.st.length/\σ'.fr.length=σ.fr.length/\(∀(p:Nat) (o:AO),σ.st[p]? =some o->(∀z,o≠AO.cell z)->σ'.st[p]? =some o)/\∀(p:Nat) (z:Option AV),σ.st[p]? =some (.cell z)->∃z',σ'.st[p]? =some (.cell z'):=by
 unfold gV
 rw[aS]
 have loc:∃σ',RU.ok ⟨σ.st,cr σ.fr i (some v)⟩= .ok σ'/\KW W σ.st σ'.st/\σ'.st.length=σ.st.length/\σ'.fr.length=σ.fr.length/\(∀(p:Nat) (o:AO),σ.st[p]? =some o->(∀z,o≠AO.cell z)->σ'.st[p]? =some o)/\∀(p:Nat) (z:Option AV),σ.st[p]? =some (.cell z)->∃z',σ'.st[p]? =some (.cell z'):=
  ⟨_,rfl,KW.refl _ _,rfl,by rw[bw];simp,λ p o e _=>e,λ p z e=>⟨z,e⟩⟩
 cases q:D.cs[i]? with
 |none=>exact loc
 |some z=>
  cases z with
  |none=>exact loc
  |some k=>
   refine wy (hc k q) λ hk z hz=>?_
   refine⟨⟨σ.st.set k (.cell (some v)),σ.fr⟩,?_,⟨by simp,λ p _ hp=>ak λ e=>hp (by rw[← e];exact hk)⟩,by simp,rfl,λ p o e ho=>?_,λ p z' e=>?_⟩
   ·show nR k v σ=_
    unfold nR
    rw[aS,hz]
    show RU.ok ⟨cr σ.st k _,_⟩=_
    rw[bw]
   ·have hkp:k≠p:=λ e2=>by rw[e2]at hz;rw[hz]at e;cases e;exact ho _ rfl
    rw[ak hkp]
    exact e
   ·by_cases hkp:k=p
    ·subst hkp
     exact⟨_,aH (aa.mp hz).1⟩
    ·exact⟨z',by rw[ak hkp];exact e⟩
theorem Rel.newObj (R:Rel OS D X W env σ){i r:Nat}(hi:i<env.length)(hw:∀k,D.cs[i]? =some (some k)->W k){st':List AO}{π:List Nat}{enc:List AO}(hp:σ.st<+:st')(w:SW st' r π enc)(hπ:∀p∈π,σ.st.length<=p):
  ∃σ',gV i D (.ref r) ⟨st',σ.fr⟩= .ok σ'/\Rel OS D X W (env.set i (some (.obj r π enc))) σ'/\KW W st' σ'.st:=by
 have R1:=R.grow hp
 refine qR (yU (D:=D) (W:=W) (σ:=⟨st',σ.fr⟩) (i:=i) (v:=.ref r) (aN hi R.len) λ k q=>⟨hw k q,R1.cel i k q (hw k q)⟩) λ σ' e1 k kl kf kc kz=>?_
 have gg:=uj (σ:=⟨st',σ.fr⟩) (aN hi R1.len) (λ k q=>R1.cel i k q (hw k q)) (λ j k q q2=>R1.cnd i j k q q2 (hw k q)) e1
 refine⟨σ',e1,?_,k⟩
 have nf:∀{p:Nat},p∈π->¬bl X W env p:=λ hq f=>by have:=R.lt _ f;have:=hπ _ hq;lia
 have fs:∀p,bl X W (env.set i (some (.obj r π enc))) p->bl X W env p∨p∈π:=λ p h=>by
  rcases h with h|h|⟨j,w',e,h⟩
  ·exact .inl (.inl h)
  ·exact .inl (.inr (.inl h))
  ·rcases bD e with⟨rfl,q⟩|⟨hj,e⟩
   ·cases q;exact .inr h
   ·exact .inl (.inr (.inr ⟨j,w',e,h⟩))
 have hs:∀p,p<σ.st.length->¬W p->σ'.st[p]? =σ.st[p]? :=λ p hlt nw=>by
  rw[k.2 p (aN hlt hp.length_le) nw]
  show st'[p]? =_
  rw[ae hlt]
  exact bZ hp (ae hlt)
 have hm:∀(p:Nat) (o:AO),σ.st[p]? =some o->¬bl X W env p->σ'.st[p]? =some o/\¬bl X W (env.set i (some (.obj r π enc))) p:=λ p o e q=>by
  have hlt:=(aa.mp e).1
  refine⟨(hs p hlt λ w=>q (d_ w)).trans e,λ z=>?_⟩
  rcases fs p z with z|z
  ·exact q z
  ·have:=hπ p z;exact ej hlt this
 refine⟨by rw[kf];simpa using R.len,λ p hq=>?_,R.xw,λ j w' p e hq=>?_,λ j c e hc=>?_,R1.cnd,R1.csx,λ j w' e=>?_⟩
 ·rw[kl]
  rcases fs p hq with z|z
  ·exact aN (R.lt p z) hp.length_le
  ·exact w.lt p z
 ·rcases bD e with⟨rfl,q⟩|⟨hj,e⟩
  ·cases q
   have hq:p∈π:=hq
   refine⟨λ x=>nf hq (.inl x),λ x=>nf hq (d_ x),λ l w2 e2 p2=>?_⟩
   rcases bD e2 with⟨h,_⟩|⟨_,e2⟩
   ·exact h
   ·exact absurd (.inr (.inr ⟨l,w2,e2,p2⟩)) (nf hq)
  ·refine fT (R.dis j w' p e hq) λ a b c=>?_
   refine⟨a,b,λ l w2 e2 p2=>?_⟩
   rcases bD e2 with⟨rfl,q⟩|⟨_,e2⟩
   ·cases q
    exact absurd (.inr (.inr ⟨j,w',e,hq⟩)) (nf p2)
   ·exact c l w2 e2 p2
 ·refine eE (R1.cel j c e hc) λ z hz=>?_
  exact kz c z hz
 ·rcases bD e with⟨rfl,q⟩|⟨hj,e⟩
  ·cases q
   refine⟨.ref r,gg.1,rfl,jU (w.keep λ p hq=>k.2 p (w.lt p hq) λ x=>nf hq (d_ x))⟩
  ·refine aQ (R.at' j w' e) λ v g kk=>?_
   exact⟨v,(gg.2 j hj).trans (iK (λ p o=>bZ hp) g),kk.mono hm (λ p hq=>hs p (R.lt p (.inr (.inr ⟨j,w',e,hq⟩))) (R.dis j w' p e hq).2.1) λ p hq=>⟨hq,hs p (R.lt p (.inl hq)) (R.xw p hq)⟩⟩
theorem sM {i:Nat}{e:EF}{enc:List AO}(hi:i<env.length)(hw:∀k,D.cs[i]? =some (some k)->W k)
  (he:∀σ,Rel OS D X W env σ->∃r st' π,e D σ= .ok (.ref r) ⟨st',σ.fr⟩/\σ.st<+:st'/\SW st' r π enc/\∀p∈π,σ.st.length<=p):SX OS D X W env (bv (gV i) e) (.ex λ q=>∃r π,q=env.set i (some (.obj r π enc))):=λ σ R=>by
 refine eI (he σ R) λ r st' π h1 h2 w hπ=>?_
 refine bW (R.newObj hi hw h2 w hπ) λ σ' e1 R' k=>?_
 refine⟨_,σ',⟨r,π,rfl⟩,e_ h1 e1,R',(KW.pre h2).trans ⟨k.1,λ p hp hm=>k.2 p hp λ x=>hm (MW.notX R x)⟩,λ p hp=>?_⟩
 rcases hp with hp|hp|⟨j,w',e,hp⟩
 ·exact .inl (.inl hp)
 ·exact .inl (.inr (.inl hp))
 ·rcases bD e with⟨rfl,q⟩|⟨_,e⟩
  ·cases q;exact .inr (hπ p hp)
  ·exact .inl (.inr (.inr ⟨j,w',e,hp⟩))
theorem kA {C0:Addr}{d0 s r:Nat}{kt:Nat->Option (List AV)}{g:RG}{π π2:List Nat}{enc enc' st2:List AO}{fl:List AV}{v:AV}{l:LF}(h:env[s]? =some (some (.obj r π enc)))(hn:D.hn=true)(hd:d0+1<=D.d)(hI:bV C0 (.ref 0) enc=true)
  (ha:zK OS D X W env l fl) (hf:∀v∈fl,flat v=true) (hg:g d0 true kt (.ref 0::fl) enc=some (v,st2)) (hs:fY 0 st2=some (π2,enc')) (R:Rel OS D X W env σ):
  ∃L st' v',ir C0 (fK d0 kt fJ g) (cV s) l D σ= .ok v' ⟨st',σ.fr⟩/\v'=ko (bk π L) v/\Rel OS D X W (env.set s (some (.obj r (π2.map (bk π L)) enc'))) ⟨st',σ.fr⟩/\KW (MW X W env) σ.st st'/\
   (∀p,bl X W (env.set s (some (.obj r (π2.map (bk π L)) enc'))) p->bl X W env p∨σ.st.length<=p)/\∀(t:Nat) (o:AO),st2[t]? =some o->st'[bk π L t]? =some (kq (bk π L) o):=by
 refine aQ (ha σ R) λ st1 h1 h2=>?_
 refine bW (lQ h hn hd hI hf hg hs R) λ _ c1 c2 _=>?_
 refine k5 (lQ h hn hd hI hf hg hs (R.grow h2)) λ st' _ _ c3 c4 c5 c6 c7=>?_
 refine⟨st1.length,st',_,?_,rfl,c4,(KW.pre h2).trans c5,λ p hp=>(c6 p hp).elim .inl λ q=>.inr (Nat.le_trans h2.length_le q),c7⟩
 unfold ir
 rw[c1]
 show bb (bV C0 (.ref r) σ.st) _ _=_
 rw[c2]
 show(l D σ).b _ _=_
 rw[h1]
 exact c3
theorem p8 {C0:Addr}{d0 s r:Nat}{kt:Nat->Option (List AV)}{g:RG}{π π2:List Nat}{enc enc' st2:List AO}{fl:List AV}{v:AV}{l:LF}(h:env[s]? =some (some (.obj r π enc)))(hn:D.hn=true)(hd:d0+1<=D.d)(hI:bV C0 (.ref 0) enc=true)
  (ha:zK OS D X W env l fl) (hf:∀v∈fl,flat v=true) (hg:g d0 true kt (.ref 0::fl) enc=some (v,st2)) (hs:fY 0 st2=some (π2,enc')):
  SX OS D X W env (cu (ir C0 (fK d0 kt fJ g) (cV s) l)) (.ex λ q=>∃π',π'.length=π2.length/\q=env.set s (some (.obj r π' enc'))):=λ σ R=>by
 refine df (kA h hn hd hI ha hf hg hs R) λ L st' v' c1 _ c4 c5 c6 _=>?_
 refine⟨_,⟨st',σ.fr⟩,⟨_,aD ..,rfl⟩,?_,c4,c5,c6⟩
 unfold cu
 rw[c1]
 rfl
theorem j' {C0:Addr}{d0 s r:Nat}{kt:Nat->Option (List AV)}{g:RG}{π:List Nat}{enc enc' st2:List AO}{fl:List AV}{v:AV}{l:LF}(h:env[s]? =some (some (.obj r π enc)))(hn:D.hn=true)(hd:d0+1<=D.d)(hI:bV C0 (.ref 0) enc=true)
  (ha:zK OS D X W env l fl) (hf:∀v∈fl,flat v=true) (hg:g d0 true kt (.ref 0::fl) enc=some (v,st2)) (hs:fY 0 st2=some (List.range π.length,enc')):
  SX OS D X W env (cu (ir C0 (fK d0 kt fJ g) (cV s) l)) (.nx (env.set s (some (.obj r π enc')))):=λ σ R=>by
 refine df (kA h hn hd hI ha hf hg hs R) λ L st' v' c1 _ c4 c5 c6 _=>?_
 rw[oE]at c4 c6
 refine⟨⟨st',σ.fr⟩,?_,c4,c5,c6⟩
 unfold cu
 rw[c1]
 rfl
theorem mK {C0:Addr}{f:CF}{a:EF}:dZ C0 f a D σ=ir C0 f a aI D σ:=by
 unfold dZ ir aI
 cases a D σ with
 |no=>rfl
 |ok v σ1=>
  show bb (bV C0 v σ1.st) _ _=bb (bV C0 v σ1.st) _ _
  cases bV C0 v σ1.st<;>rfl
theorem sN {C0:Addr}{d0 s r:Nat}{kt:Nat->Option (List AV)}{g:RG}{π π2:List Nat}{enc enc' st2:List AO}{v:AV}(h:env[s]? =some (some (.obj r π enc)))(hn:D.hn=true)(hd:d0+1<=D.d)(hI:bV C0 (.ref 0) enc=true)
  (hg:g d0 true kt [.ref 0] enc=some (v,st2)) (hs:fY 0 st2=some (π2,enc')):
  SX OS D X W env (cu (dZ C0 (fK d0 kt fJ g) (cV s))) (.ex λ q=>∃π',π'.length=π2.length/\q=env.set s (some (.obj r π' enc'))):=λ σ R=>by
 have:=p8 (C0:=C0) (d0:=d0) (kt:=kt) (g:=g) h hn hd hI (i9 (D:=D)) (λ v hv=>by cases hv) hg hs σ R
 unfold cu at this ⊢
 rw[mK]
 exact this
end
noncomputable def t9 (c:Nat):List Int->List (AV×AV)
 |[]=>[]
 |k::ks=>(.int k,.ref c)::t9 (c+3) ks
noncomputable def om (NI c:Nat):List Int->List Int->List (List Int)->List AO
 |k::ks,n::ns,s::ss=>.inst NI (c+1) [some (.int k),some (.int n),some (.ref (c+2))]:: .attrs NI [] 0:: .list (s.map .int)::om NI (c+3) ks ns ss
 |_,_,_=>[]
structure fb where
 np:List Int
 rdy:List Int
 psd:Int
 fin:Int
 bd:Nat
noncomputable def bY (TS NI ep:Nat)(keys:List Int)(sc:List (List Int))(S:fb):List AO:=
 .inst TS 1 []:: .attrs TS [some (.ref 2),some (.ref 3),some (.int S.psd),some (.int S.fin)] S.bd:: .dict false (t9 4 keys) ep:: .list (S.rdy.map .int)::om NI 4 keys S.np sc
structure TSo (TS NI ep:Nat) (keys:List Int) (sc:List (List Int)) (st:List AO) (S:fb):Prop where
 h0:st[0]? =some (.inst TS 1 [])
 h1:st[1]? =some (.attrs TS [some (.ref 2),some (.ref 3),some (.int S.psd),some (.int S.fin)] S.bd)
 h2:st[2]? =some (.dict false (t9 4 keys) ep)
 h3:st[3]? =some (.list (S.rdy.map .int))
 l1:S.np.length=keys.length
 l2:sc.length=keys.length
 hn:∀(i:Nat) (k n:Int) (s:List Int),keys[i]? =some k->S.np[i]? =some n->sc[i]? =some s->st[4+3*i]? =some (.inst NI (5+3*i) [some (.int k),some (.int n),some (.ref (6+3*i))])/\st[5+3*i]? =some (.attrs NI [] 0)/\st[6+3*i]? =some (.list (s.map .int))
section
variable{TS NI ep:Nat}{keys:List Int}{sc:List (List Int)}{st:List AO}{S:fb}
theorem qO:∀{c:Nat} {ks ns:List Int} {ss:List (List Int)} {i:Nat} {k n:Int} {s:List Int},ks[i]? =some k->ns[i]? =some n->ss[i]? =some s->
  (om NI c ks ns ss)[3*i]? =some (.inst NI (c+1+3*i) [some (.int k),some (.int n),some (.ref (c+2+3*i))])/\(om NI c ks ns ss)[3*i+1]? =some (.attrs NI [] 0)/\(om NI c ks ns ss)[3*i+2]? =some (.list (s.map .int))
 |c,a::ks,b::ns,d::ss,0,k,n,s,h1,h2,h3=>by cases h1;cases h2;cases h3;exact⟨rfl,rfl,rfl⟩
 |c,a::ks,b::ns,d::ss,i+1,k,n,s,h1,h2,h3=>by
  refine fT (qO (c:=c+3) (i:=i) h1 h2 h3) λ g1 g2 g3=>?_
  refine⟨?_,?_,?_⟩
  ·rw[show 3*(i+1)=3*i+3 by exact ω154,show c+1+(3*i+3)=c+3+1+3*i by exact ω161,show c+2+(3*i+3)=c+3+2+3*i by exact ω170]
   exact g1
  ·rw[show 3*(i+1)+1=3*i+1+3 by exact ω180];exact g2
  ·rw[show 3*(i+1)+2=3*i+2+3 by exact ω185];exact g3
 |_,[],_,_,_,_,_,_,h1,_,_=>by cases h1
 |_,_::_,[],_,_,_,_,_,_,h2,_=>by cases h2
 |_,_::_,_::_,[],_,_,_,_,_,_,h3=>by cases h3
theorem mu (l1:S.np.length=keys.length)(l2:sc.length=keys.length)(l:List AO):TSo TS NI ep keys sc (bY TS NI ep keys sc S++l) S:=by
 have pre:∀{p:Nat} {o:AO},(bY TS NI ep keys sc S)[p]? =some o->(bY TS NI ep keys sc S++l)[p]? =some o:=λ h=>bZ (ai _ _) h
 refine⟨pre rfl,pre rfl,pre rfl,pre rfl,l1,l2,λ i k n s a b c=>?_⟩
 refine fT (qO (NI:=NI) (c:=4) a b c) λ g1 g2 g3=>?_
 refine⟨pre ?_,pre ?_,pre ?_⟩
 ·rw[show 4+3*i=3*i+4 by exact ω186,show 5+3*i=4+1+3*i by exact ω187,show 6+3*i=4+2+3*i by exact ω147];exact g1
 ·rw[show 5+3*i=3*i+1+4 by exact ω148];exact g2
 ·rw[show 6+3*i=3*i+2+4 by exact ω149];exact g3
theorem TSo.app (h:TSo TS NI ep keys sc st S)(l:List AO):TSo TS NI ep keys sc (st++l) S:=by
 have pre:∀{p:Nat} {o:AO},st[p]? =some o->(st++l)[p]? =some o:=λ h=>bZ (ai _ _) h
 refine⟨pre h.h0,pre h.h1,pre h.h2,pre h.h3,h.l1,h.l2,λ i k n s a b c=>?_⟩
 refine fT (h.hn i k n s a b c) λ g1 g2 g3=>?_
 exact⟨pre g1,pre g2,pre g3⟩
theorem NW.of_st:∀{c j:Nat} {ks ns:List Int} {ss:List (List Int)},ns.length=ks.length->ss.length=ks.length->
  (∀(i:Nat) (k n:Int) (s:List Int),ks[i]? =some k->ns[i]? =some n->ss[i]? =some s->st[c+3*i]? =some (.inst NI (c+1+3*i) [some (.int k),some (.int n),some (.ref (c+2+3*i))])/\st[c+1+3*i]? =some (.attrs NI [] 0)/\st[c+2+3*i]? =some (.list (s.map .int)))->
  NW st c (t9 c ks) (List.range' c (3*ks.length)) (om NI c ks ns ss) (t9 c ks)
 |c,j,[],[],[],_,_,_=>.nil c
 |c,j,[],_::_,_,h,_,_=>by cases h
 |c,j,[],[],_::_,_,h,_=>by cases h
 |c,j,k::ks,n::ns,s::ss,h1,h2,h=>by
  refine fT (h 0 k n s rfl rfl rfl) λ g1 g2 g3=>?_
  have e:List.range' c (3*(k::ks).length)=c::(c+1)::(c+2)::List.range' (c+3) (3*ks.length):=by
   rw[bL,show 3*(ks.length+1)=3*ks.length+1+1+1 by exact ω150,List.range'_succ,List.range'_succ,List.range'_succ]
  rw[e]
  refine .cons g1 g2 g3 rfl rfl (λ v hv=>?_) (NW.of_st (j:=j) (by simpa using h1) (by simpa using h2) λ i k' n' s' a b d=>?_)
  ·refine aQ (List.mem_map.mp hv) λ x _ z1_=>?_;subst z1_;rfl
  ·have:=h (i+1) k' n' s' a b d
   rw[show c+3+3*i=c+3*(i+1)by exact xd,show c+3+1+3*i=c+1+3*(i+1)by exact ω152,show c+3+2+3*i=c+2+3*(i+1)by exact ω153]
   exact this
 |_,_,_::_,[],_,h,_,_=>by cases h
 |_,_,_::_,_::_,[],_,h,_=>by cases h
theorem TSo.sel (h:TSo TS NI ep keys sc st S):fY 0 st=some (List.range (4+3*keys.length),bY TS NI ep keys sc S):=by
 have w:=NW.of_st (st:=st) (NI:=NI) (c:=4) (j:=0) h.l1 h.l2 λ i k n s a b c=>by
  have:=h.hn i k n s a b c
  rw[show 4+1+3*i=5+3*i by exact ω155,show 4+2+3*i=6+3*i by exact ω156];exact this
 have e:List.range (4+3*keys.length)=0::1::2::3::List.range' 4 (3*keys.length):=by
  rw[List.range_eq_range',show 4+3*keys.length=3*keys.length+1+1+1+1 by exact ω157,List.range'_succ,List.range'_succ,List.range'_succ,List.range'_succ]
 rw[e]
 refine jU (.ready h.h0 h.h1 h.h2 h.h3 rfl rfl (λ v hv=>?_) w ?_)
 ·refine aQ (List.mem_map.mp hv) λ x _ z1_=>?_;subst z1_;rfl
 ·rw[← e];exact List.nodup_range
theorem qU:∀{c:Nat} {ks:List Int} {i:Nat} {k:Int},ks.Nodup->ks[i]? =some k->iN (t9 c ks) (.int k)=some (.ref (c+3*i))
 |c,a::ks,0,k,_,h=>by
  cases h
  show bb (a == a) (some (AV.ref c)) _=_
  rw[beq_self_eq_true]
  rfl
 |c,a::ks,i+1,k,hn,h=>by
  rw[List.nodup_cons]at hn
  have hne:(a == k)=false:=by
   rw[beq_eq_false_iff_ne]
   intro e
   exact hn.1 (e▸ac h)
  show bb (a == k) _ (iN (t9 (c+3) ks) (.int k))=_
  rw[hne]
  show iN (t9 (c+3) ks) (.int k)=_
  rw[qU hn.2 h,show c+3+3*i=c+3*(i+1)by exact xd]
 |_,[],_,_,_,h=>by cases h
theorem TSo.look (h:TSo TS NI ep keys sc st S)(hn:keys.Nodup){i:Nat}{k:Int}(hk:keys[i]? =some k):uQ (.ref 2) (.int k) st=some (some (.ref (4+3*i))):=by
 rw[uP h.h2]
 show some (iN (t9 4 keys) (.int k))=_
 rw[qU hn hk]
theorem TSo.at1 (h:TSo TS NI ep keys sc st S){i:Nat}{v:AV}(hv:cy [some (.ref 2),some (.ref 3),some (.int S.psd),some (.int S.fin)] i=some (some v)):bO TS i (.ref 0) st=some v:=by
 show dT (.ref 0) st none _=_
 rw[dY h.h0,Nat.beq_refl]
 show eK 1 st none _=_
 rw[fD h.h1]
 show bb (Nat.beq TS TS) _ _=_
 rw[Nat.beq_refl]
 show Op.b (cy _ i) none _=_
 rw[hv]
 rfl
theorem TSo.slot (h:TSo TS NI ep keys sc st S){i j:Nat}{k n:Int}{s:List Int}{v:AV}(hk:keys[i]? =some k)(h1:S.np[i]? =some n)(h2:sc[i]? =some s)(hv:cy [some (.int k),some (.int n),some (.ref (6+3*i))] j=some (some v)):cP NI j (.ref (4+3*i)) st=some v:=by
 refine fT (h.hn i k n s hk h1 h2) λ g1 g2 _=>?_
 show dT (.ref (4+3*i)) st none _=_
 rw[dY g1]
 rw[Nat.beq_refl]
 show Op.b (cy st (5+3*i)) none _=_
 rw[aS,g2]
 show Op.b (cy _ j) none _=_
 rw[hv]
 rfl
theorem TSo.setN (h:TSo TS NI ep keys sc st S){i:Nat}{k n:Int}{s:List Int}(x:Int)(hk:keys[i]? =some k)(h1:S.np[i]? =some n)(h2:sc[i]? =some s):
  ∃st',dW NI 1 (.ref (4+3*i)) (.int x) st=some st'/\TSo TS NI ep keys sc st' {S with np:=S.np.set i x}/\st'.length=st.length/\∀(p:Nat),4+3*keys.length<=p->st'[p]? =st[p]? :=by
 refine fT (h.hn i k n s hk h1 h2) λ g1 g2 g3=>?_
 have hi:=(aa.mp hk).1
 refine⟨st.set (4+3*i) (.inst NI (5+3*i) [some (.int k),some (.int x),some (.ref (6+3*i))]),?_,?_,by simp,λ p hp=>ak (by exact ω158 hp hi)⟩
 ·show dT (.ref (4+3*i)) st none _=_
  rw[dY g1]
  rw[Nat.beq_refl]
  show Op.b (cy st (5+3*i)) none _=_
  rw[aS,g2]
  show some (cr st (4+3*i) _)=_
  rw[bw]
  rfl
 ·refine⟨by rw[ak (by exact ω159)];exact h.h0,by rw[ak (by exact ω160)];exact h.h1,by rw[ak (by exact ω162)];exact h.h2,by rw[ak (by exact ω163)];exact h.h3,by simpa using h.l1,h.l2,λ i' k' n' s' a b c=>?_⟩
  by_cases e:i=i'
  ·subst e
   rw[hk]at a
   cases a
   rw[show({S with np:=S.np.set i x}:fb).np=S.np.set i x from rfl,aH (by rw[h.l1];exact hi)]at b
   cases b
   refine fT (h.hn i k n s' hk h1 c) λ q1 q2 q3=>?_
   exact⟨aH (aa.mp g1).1,by rw[ak (by exact ω164)];exact q2,by rw[ak (by exact ω165)];exact q3⟩
  ·have b:(S.np.set i x)[i']? =some n':=b
   rw[ak e]at b
   refine fT (h.hn i' k' n' s' a b c) λ q1 q2 q3=>?_
   exact⟨by rw[ak (by exact ω166 e)];exact q1,by rw[ak (by exact ω167)];exact q2,by rw[ak (by exact ω168)];exact q3⟩
theorem TSo.setR (h:TSo TS NI ep keys sc st S)(l:List Int):TSo TS NI ep keys sc (st.set 3 (.list (l.map .int))) {S with rdy:=l}/\∀(p:Nat),4+3*keys.length<=p->(st.set 3 (.list (l.map .int)))[p]? =st[p]? :=by
 refine⟨⟨by rw[ak (by exact ω169)];exact h.h0,by rw[ak (by exact ω171)];exact h.h1,by rw[ak (by exact ω172)];exact h.h2,aH (aa.mp h.h3).1,h.l1,h.l2,λ i' k' n' s' a b c=>?_⟩,λ p hp=>ak (by exact ω173 hp)⟩
 refine fT (h.hn i' k' n' s' a b c) λ q1 q2 q3=>?_
 exact⟨by rw[ak (by exact ω174)];exact q1,by rw[ak (by exact ω175)];exact q2,by rw[ak (by exact ω176)];exact q3⟩
theorem TSo.setA (h:TSo TS NI ep keys sc st S){i:Nat}{x psd' fin':Int}(hb:S.bd<=900)(hi:cy [some (AV.ref 2),some (.ref 3),some (.int S.psd),some (.int S.fin)] i≠none)(hx:cr [some (AV.ref 2),some (.ref 3),some (.int S.psd),some (.int S.fin)] i (some (.int x))=[some (.ref 2),some (.ref 3),some (.int psd'),some (.int fin')]):
  ∃st',hY TS i (.ref 0) (.int x) st=some st'/\TSo TS NI ep keys sc st' {S with psd:=psd',fin:=fin',bd:=S.bd+1}/\st'.length=st.length/\∀(p:Nat),4+3*keys.length<=p->st'[p]? =st[p]? :=by
 refine⟨st.set 1 (.attrs TS [some (.ref 2),some (.ref 3),some (.int psd'),some (.int fin')] (S.bd+1)),?_,?_,by simp,λ p hp=>ak (by exact ω177 hp)⟩
 ·show dT (.ref 0) st none _=_
  rw[dY h.h0,Nat.beq_refl]
  show eK 1 st none _=_
  rw[fD h.h1]
  show bb (Nat.beq TS TS) _ _=_
  rw[Nat.beq_refl]
  show bb (Nat.ble S.bd 900) _ _=_
  rw[aF hb]
  show Op.b (cy _ i) none _=_
  cases q:cy [some (AV.ref 2),some (.ref 3),some (.int S.psd),some (.int S.fin)] i with
  |none=>exact absurd q hi
  |some z=>
   show some (cr st 1 (.attrs TS (cr _ i (some (.int x))) (Nat.succ S.bd)))=_
   rw[hx,bw]
 ·refine⟨by rw[ak (by exact ω178)];exact h.h0,aH (aa.mp h.h1).1,by rw[ak (by exact ω179)];exact h.h2,by rw[ak (by exact ω181)];exact h.h3,h.l1,h.l2,λ i' k' n' s' a b c=>?_⟩
  refine fT (h.hn i' k' n' s' a b c) λ q1 q2 q3=>?_
  exact⟨by rw[ak (by exact ω182)];exact q1,by rw[ak (by exact ω183)];exact q2,by rw[ak (by exact ω184)];exact q3⟩
end
section
variable{D:Dn}{σ σ1 σ2:AS}
theorem bP {a r:SF}(h:a D σ= .nx σ1):ao a r D σ=r D σ1:=by unfold ao;rw[h]
theorem i7 {t:TF}{a b:SF}{c:Bool}(h:t D σ= .ok c σ1):dL t a b D σ=bb c (a D σ1) (b D σ1):=by unfold dL;rw[h];rfl
theorem uq {e:EF}{v:AV}(h:e D σ= .ok v σ1):cu e D σ= .nx σ1:=by unfold cu;rw[h];rfl
theorem pR {g:AV->List AO->Option AV}{p:AV->AV->List AO->Option (List AO)}{op:Int->Int->RV->(Int->RV)->RV}{a b:EF}{x:AV}{m n c:Int}{st':List AO}(hop:∀z k,op m n z k=k c)(h1:a D σ= .ok x σ1)(h2:g x σ1.st=some (.int m))(h3:b D σ1= .ok (.int n) σ2)(h4:p x (.int c) σ2.st=some st'):
  fP g p op a b D σ= .nx ⟨st',σ2.fr⟩:=by
 unfold fP
 rw[h1]
 show Op.b (g x σ1.st) _ _=_
 rw[h2]
 show(b D σ1).b _ _=_
 rw[h3]
 show(op m n .no _:RV).b _ _=_
 rw[hop]
 have e:(fI c λ c=>(.ok (.int c) σ2:RV))= .ok (.int c) σ2:=ek c λ c=>(.ok (.int c) σ2:RV)
 show(fI c λ c=>(.ok (.int c) σ2:RV)).b _ _=_
 rw[e]
 show Op.b (p x (.int c) σ2.st) _ _=_
 rw[h4]
 rfl
theorem qB {a b:EF}{x y v:AV}(h1:a D σ= .ok x σ)(h2:b D σ= .ok y σ)(h3:uQ x y σ.st=some (some v)):gd a b D σ= .ok v σ:=by
 unfold gd
 rw[h1]
 show(b D σ).b _ _=_
 rw[h2]
 show Op.b (uQ x y σ.st) _ _=_
 rw[h3]
 rfl
theorem gf {f:AV->List AO->Option AV}{a:EF}{x v:AV}(h1:a D σ= .ok x σ1)(h2:f x σ1.st=some v):du f a D σ= .ok v σ1:=by
 unfold du
 rw[h1]
 show Op.b (f x σ1.st) _ _=_
 rw[h2]
 rfl
theorem ic {neg:Bool}{a:EF}{r:Nat}(h:a D σ= .ok (.ref r) σ1):fq neg a D σ= .ok (xor neg false) σ1:=by
 unfold fq
 rw[h]
 rfl
end
noncomputable def bI (keys:List Int)(k:Int):Nat:=List.rec (motive:=λ _=>Nat) 0 (λ a _ ih=>bb (a == k) 0 (Nat.succ ih)) keys
theorem eH:∀{keys:List Int} {k:Int},k∈keys->keys[bI keys k]? =some k
 |a::ks,k,h=>by
  show(a::ks)[bb (a == k) 0 (Nat.succ (bI ks k))]? =_
  cases q:a == k with
  |true=>rw[eq_of_beq q];rfl
  |false=>
   rcases List.mem_cons.mp h with rfl|h
   ·rw[beq_self_eq_true]at q;cases q
   ·exact eH h
noncomputable def xI (keys:List Int)(np:List Int)(ks:List Int):List Int:=List.rec (motive:=λ _=>List Int->List Int) (λ np=>np) (λ k _ ih np=>ih (cr np (bI keys k) (-1))) ks np
noncomputable def gR (keys:List Int)(S:fb):fb:=⟨xI keys S.np S.rdy,[],S.psd+S.rdy.length,S.fin,S.bd+1⟩
noncomputable def k7 (keys:List Int)(S:fb)(s:Int):fb:=Op.b (cy S.np (bI keys s)) S λ m=>fI (m - 1) λ n=>⟨cr S.np (bI keys s) n,bb (n == 0) (S.rdy++[s]) S.rdy,S.psd,S.fin,S.bd⟩
noncomputable def eh (keys:List Int)(ss:List Int)(S:fb):fb:=List.rec (motive:=λ _=>fb->fb) (λ S=>S) (λ s _ ih S=>ih (k7 keys S s)) ss S
noncomputable def dn1 (keys:List Int)(sc:List (List Int))(S:fb)(k:Int):fb:=
 let S2:=eh keys (Op.b (cy sc (bI keys k)) [] id) ⟨cr S.np (bI keys k) (-2),S.rdy,S.psd,S.fin,S.bd⟩
 ⟨S2.np,S2.rdy,S2.psd,S2.fin+1,S2.bd+1⟩
noncomputable def dnL (keys:List Int)(sc:List (List Int))(ks:List Int)(S:fb):fb:=List.rec (motive:=λ _=>fb->fb) (λ S=>S) (λ k _ ih S=>ih (dn1 keys sc S k)) ks S
noncomputable def okD (keys:List Int)(sc:List (List Int))(ks:List Int)(S:fb):Bool:=List.rec (motive:=λ _=>fb->Bool) (λ _=>true) (λ k _ ih S=>Op.b (cy S.np (bI keys k)) false λ m=>bb (m == -1) (ih (dn1 keys sc S k)) false) ks S
noncomputable def bGR (TS NI:Nat):SF:=ao (dL (fq false (du (bO TS 1) (cV 0))) (ao (dS) (aC)) (aC)) (ao (bv (gV 1) (aP le (aq (du (bO TS 1) (cV 0)) (aI)))) (ao (bv (gV 2) (du (bO TS 0) (cV 0))) (ao (dM 64 (gV 3) (cV 1) (ao (bv (lZ (dW NI 1) (gd (cV 2) (cV 3))) (cC (.int (-1)))) (aC)) (aC)) (ao (cu (iB .list mS (du (bO TS 1) (cV 0)))) (ao (fP (bO TS 2) (hY TS 2) dN (cV 0) (aP dJ (aq (cV 1) (aI)))) (ao (cE (cV 1)) (aC)))))))
section
variable{TS NI ep T d:Nat}{keys:List Int}{sc:List (List Int)}{st:List AO}{S:fb}{kt:Nat->Option (List AV)}
theorem pb (h:TSo TS NI ep keys sc st S){i:Nat}{k:Int}(hk:keys[i]? =some k):∃n s,S.np[i]? =some n/\sc[i]? =some s:=by
 have hi:=(aa.mp hk).1
 exact⟨_,_,ae (by rw[h.l1];exact hi),ae (by rw[h.l2];exact hi)⟩
theorem qE (nd:keys.Nodup){all:List Int}(hT:4+3*keys.length<=T):∀{ks:List Int} {j fuel:Nat} {st:List AO} {S:fb} {v:Option AV},all.drop j=ks->ks.length<fuel->TSo TS NI ep keys sc st S->st[T]? =some (.tup (all.map .int))->(∀k∈ks,k∈keys)->
  ∃st' v',cb fuel (gV 3) (ao (bv (lZ (dW NI 1) (gd (cV 2) (cV 3))) (cC (.int (-1)))) (aC)) aC ⟨[],d,true,kt⟩ (.tu T) j ⟨st,[some (.ref 0),some (.ref T),some (.ref 2),v]⟩= .nx ⟨st',[some (.ref 0),some (.ref T),some (.ref 2),v']⟩/\
   TSo TS NI ep keys sc st' {S with np:=xI keys S.np ks}/\st'.length=st.length/\∀(p:Nat),4+3*keys.length<=p->st'[p]? =st[p]?
 |[],j,0,_,_,_,_,hf,_,_,_=>absurd hf (aM _)
 |[],j,fuel+1,st,S,v,hd,_,h,ht,_=>by
  refine⟨st,v,?_,h,rfl,λ _ _=>rfl⟩
  show Op.b (b7 (.tu T) j st) _ _=_
  have:b7 (.tu T) j st=some none:=by
   rw[iZ (ht),aB,aK.mpr (List.drop_eq_nil_iff.mp hd)]
   rfl
  rw[this]
  rfl
 |k::ks,j,0,_,_,_,_,hf,_,_,_=>absurd hf (bK _)
 |k::ks,j,fuel+1,st,S,v,hd,hf,h,ht,hm=>by
  have hlt:j<all.length:=by
   apply Nat.lt_of_not_le
   intro q
   rw[List.drop_eq_nil_iff.mpr q]at hd
   cases hd
  rw[List.drop_eq_getElem_cons hlt]at hd
  refine eA (List.cons.inj hd) λ hy hd=>?_
  have hk:=eH (hm k aT)
  refine ez (pb h hk) λ n s hn hs=>?_
  refine em (h.setN (-1) hk hn hs) λ st' e1 h' l' p'=>?_
  have ht':st'[T]? =some (.tup (all.map .int)):=(p' T hT).trans ht
  refine bz (qE nd hT (ks:=ks) (j:=j+1) (fuel:=fuel) (st:=st') (v:=some (.int k)) hd (bu hf) h' ht' λ x hx=>hm x (ar _ hx)) λ st2 v2 e2 h2 l2 p2=>?_
  refine⟨st2,v2,?_,?_,l2.trans l',λ p hp=>(p2 p hp).trans (p' p hp)⟩
  ·show Op.b (b7 (.tu T) j st) _ _=_
   have:b7 (.tu T) j st=some (some (.int k)):=by
    rw[iZ (ht),aB,ae hlt,hy]
    rfl
   rw[this]
   have hb:ao (bv (lZ (dW NI 1) (gd (cV 2) (cV 3))) (cC (.int (-1)))) aC ⟨[],d,true,kt⟩ ⟨st,[some (.ref 0),some (.ref T),some (.ref 2),some (.int k)]⟩= .nx ⟨st',[some (.ref 0),some (.ref T),some (.ref 2),some (.int k)]⟩:=by
    refine(bP (e_ (σ1:=⟨st,[some (.ref 0),some (.ref T),some (.ref 2),some (.int k)]⟩) rfl ?_)).trans rfl
    unfold lZ
    rw[qB (x:=.ref 2) (y:=.int k) rfl rfl (h.look nd hk)]
    show Op.b (dW NI 1 (.ref (4+3*bI keys k)) (.int (-1)) st) _ _=_
    rw[e1]
    rfl
   show(RF.rec (motive:=λ _=>RF) .no (cb fuel (gV 3) _ aC _ (.tu T) (Nat.succ j)) .nx (cb fuel (gV 3) _ aC _ (.tu T) (Nat.succ j)) .rt (ao _ aC ⟨[],d,true,kt⟩ ⟨st,[some (.ref 0),some (.ref T),some (.ref 2),some (.int k)]⟩):RF)=_
   rw[hb]
   exact e2
  ·have e3:xI keys S.np (k::ks)=xI keys (S.np.set (bI keys k) (-1)) ks:=by
    show xI keys (cr S.np (bI keys k) (-1)) ks=_
    rw[bw]
   rw[e3]
   exact h2
theorem yT (nd:keys.Nodup)(l1:S.np.length=keys.length)(l2:sc.length=keys.length)(hb:S.bd<=900)(hr:S.rdy.length<64)(hm:∀k∈S.rdy,k∈keys):
  ∃st2,mH 1 4 (bGR TS NI) d true kt [.ref 0] (bY TS NI ep keys sc S)=some (.ref (bY TS NI ep keys sc S).length,st2)/\st2[(bY TS NI ep keys sc S).length]? =some (.tup (S.rdy.map .int))/\TSo TS NI ep keys sc st2 (gR keys S):=by
 have h0:=mu (TS:=TS) (NI:=NI) (ep:=ep) l1 l2 []
 rw[List.append_nil]at h0
 generalize hE:bY TS NI ep keys sc S=E at h0 ⊢
 have hT:4+3*keys.length<=E.length:=by
  have:=List.length_range (n:=4+3*keys.length)
  have hs:=(eG h0.sel).lt
  rcases Nat.lt_or_ge E.length (4+3*keys.length)with q|q
  ·exact absurd (hs E.length (List.mem_range.mpr q)) (aM _)
  ·exact q
 have h1:=h0.app [.tup (S.rdy.map .int)]
 have ht:(E++[AO.tup (S.rdy.map .int)])[E.length]? =some (.tup (S.rdy.map .int)):=ii
 refine bz (qE (d:=d) (kt:=kt) nd hT (ks:=S.rdy) (j:=0) (fuel:=64) (v:=none) rfl hr h1 ht hm) λ st1 v1 e1 g1 q1 p1=>?_
 have ht1:st1[E.length]? =some (.tup (S.rdy.map .int)):=(p1 _ hT).trans ht
 refine eA (g1.setR []) λ g2 p2=>?_
 refine em (g2.setA (i:=2) (x:=S.psd+S.rdy.length) (psd':=S.psd+S.rdy.length) (fin':=S.fin) hb nofun rfl) λ st3 e3 g3 q3 p3=>?_
 have ht3:st3[E.length]? =some (.tup (S.rdy.map .int)):=(p3 _ hT).trans ((p2 _ hT).trans ht1)
 refine⟨st3,?_,ht3,g3⟩
 show tA (bGR TS NI ⟨[],d,true,kt⟩ ⟨E,[some (.ref 0),none,none,none]⟩)=_
 have hz:Nat.ble (S.rdy.map AV.int).length big=true:=aF (cg _ (by unfold big;exact ω189 hr))
 have a1:du (bO TS 1) (cV 0) ⟨[],d,true,kt⟩ ⟨E,[some (.ref 0),none,none,none]⟩= .ok (.ref 3) ⟨E,[some (.ref 0),none,none,none]⟩:=gf (x:=.ref 0) rfl (h0.at1 (i:=1) rfl)
 have s1:dL (fq false (du (bO TS 1) (cV 0))) (ao (dS) (aC)) (aC) ⟨[],d,true,kt⟩ ⟨E,[some (.ref 0),none,none,none]⟩= .nx ⟨E,[some (.ref 0),none,none,none]⟩:=(i7 (ic a1)).trans rfl
 have s2:bv (gV 1) (aP le (aq (du (bO TS 1) (cV 0)) (aI))) ⟨[],d,true,kt⟩ ⟨E,[some (.ref 0),none,none,none]⟩= .nx ⟨E++[.tup (S.rdy.map .int)],[some (.ref 0),some (.ref E.length),none,none]⟩:=by
  refine e_ (v:=.ref E.length) (σ1:=⟨E++[.tup (S.rdy.map .int)],[some (.ref 0),none,none,none]⟩) ?_ rfl
  unfold aP aq
  rw[a1]
  show Op.b (mU (.ref 3) E) _ _=_
  rw[gk h0.h3 (cg _ (by exact xc hr))]
  rfl
 have a2:du (bO TS 0) (cV 0) ⟨[],d,true,kt⟩ ⟨E++[.tup (S.rdy.map .int)],[some (.ref 0),some (.ref E.length),none,none]⟩= .ok (.ref 2) ⟨E++[.tup (S.rdy.map .int)],[some (.ref 0),some (.ref E.length),none,none]⟩:=gf (x:=.ref 0) rfl (h1.at1 (i:=0) rfl)
 have s3:bv (gV 2) (du (bO TS 0) (cV 0)) ⟨[],d,true,kt⟩ ⟨E++[.tup (S.rdy.map .int)],[some (.ref 0),some (.ref E.length),none,none]⟩= .nx ⟨E++[.tup (S.rdy.map .int)],[some (.ref 0),some (.ref E.length),some (.ref 2),none]⟩:=e_ a2 rfl
 have s4:dM 64 (gV 3) (cV 1) (ao (bv (lZ (dW NI 1) (gd (cV 2) (cV 3))) (cC (.int (-1)))) (aC)) (aC) ⟨[],d,true,kt⟩ ⟨E++[.tup (S.rdy.map .int)],[some (.ref 0),some (.ref E.length),some (.ref 2),none]⟩= .nx ⟨st1,[some (.ref 0),some (.ref E.length),some (.ref 2),v1]⟩:=by
  refine Eq.trans ?_ e1
  unfold dM
  show Op.b (cF kt (.ref E.length) (E++[.tup (S.rdy.map .int)])) _ _=_
  have:cF kt (.ref E.length) (E++[AO.tup (S.rdy.map .int)])=some (.tu E.length):=by
   exact gn (ht)
  rw[this]
  rfl
 have a5:du (bO TS 1) (cV 0) ⟨[],d,true,kt⟩ ⟨st1,[some (.ref 0),some (.ref E.length),some (.ref 2),v1]⟩= .ok (.ref 3) ⟨st1,[some (.ref 0),some (.ref E.length),some (.ref 2),v1]⟩:=gf (x:=.ref 0) rfl (g1.at1 (i:=1) rfl)
 have s5:cu (iB .list mS (du (bO TS 1) (cV 0))) ⟨[],d,true,kt⟩ ⟨st1,[some (.ref 0),some (.ref E.length),some (.ref 2),v1]⟩= .nx ⟨st1.set 3 (.list []),[some (.ref 0),some (.ref E.length),some (.ref 2),v1]⟩:=by
  refine uq (v:=.none) ?_
  unfold iB
  rw[a5]
  show bb (iD .list (.ref 3) st1) _ _=_
  rw[fx g1.h3]
  show Op.b (mU (.ref 3) st1) _ _=_
  rw[gk g1.h3 (cg _ (by show S.rdy.length<=1000;exact xc hr))]
  show RV.ok .none ⟨cr st1 3 (.list []),_⟩=_
  rw[bw]
 have s6:fP (bO TS 2) (hY TS 2) dN (cV 0) (aP dJ (aq (cV 1) (aI))) ⟨[],d,true,kt⟩ ⟨st1.set 3 (.list []),[some (.ref 0),some (.ref E.length),some (.ref 2),v1]⟩= .nx ⟨st3,[some (.ref 0),some (.ref E.length),some (.ref 2),v1]⟩:=by
  refine pR (x:=.ref 0) (m:=S.psd) (n:=S.rdy.length) (c:=S.psd+S.rdy.length) (σ1:=⟨st1.set 3 (.list []),[some (.ref 0),some (.ref E.length),some (.ref 2),v1]⟩) (σ2:=⟨st1.set 3 (.list []),[some (.ref 0),some (.ref E.length),some (.ref 2),v1]⟩) (λ _ _=>rfl) rfl (g2.at1 (i:=2) rfl) ?_ e3
  unfold aP aq
  show dJ ⟨[],d,true,kt⟩ [.ref E.length] ⟨st1.set 3 (.list []),[some (.ref 0),some (.ref E.length),some (.ref 2),v1]⟩=_
  have ht2:(st1.set 3 (AO.list []))[E.length]? =some (.tup (S.rdy.map .int)):=(p2 _ hT).trans ht1
  have hl:vW (.ref E.length) (st1.set 3 (AO.list []))=some (.ofNat S.rdy.length):=by
   show((st1.set 3 (AO.list []))[E.length]?).bind yC=_
   rw[ht2]
   show(match Nat.ble (S.rdy.map AV.int).length big with|true=>some (Int.ofNat (S.rdy.map AV.int).length)|false=>none)=_
   rw[hz,aD]
  unfold dJ
  dsimp only
  rw[hl]
  exact ek (Int.ofNat S.rdy.length) λ c=>RV.ok (AV.int c) ⟨st1.set 3 (.list []),[some (.ref 0),some (.ref E.length),some (.ref 2),v1]⟩
 unfold bGR
 rw[bP s1,bP s2,bP s3,bP s4,bP s5,bP s6]
 rfl
end
noncomputable def oI (TS NI:Nat):SF:=ao (bv (gV 7) (gd (cV 2) (cV 6))) (ao (fP (cP NI 1) (dW NI 1) eW (cV 7) (cC (.int 1))) (ao (dL (l8 (du (cP NI 1) (cV 7)) (cC (.int 0))) (ao (cu (cc .list cD (du (bO TS 1) (cV 0)) (aq (cV 6) (aI)))) (aC)) (aC)) (aC)))
noncomputable def oJ (TS NI:Nat):SF:=ao (dL (fq false (ny 4 (cc .dict mR (cV 2) (aq (cV 3) (aI))))) (ao (dS) (aC)) (aC)) (ao (bv (gV 5) (du (cP NI 1) (cV 4))) (ao (dL (cK (λ a b=>a != b) (cV 5) (cC (.int (-1)))) (ao (dL (cK (λ a b=>decide (b<=a)) (cV 5) (cC (.int 0))) (ao (dS) (aC)) (ao (dL (l8 (cV 5) (cC (.int (-2)))) (ao (dS) (aC)) (ao (dS) (aC))) (aC))) (aC)) (aC)) (ao (bv (lZ (dW NI 1) (cV 4)) (cC (.int (-2)))) (ao (dM 64 (gV 6) (du (cP NI 2) (cV 4)) (oI TS NI) (aC)) (ao (fP (bO TS 3) (hY TS 3) dN (cV 0) (cC (.int 1))) (aC))))))
noncomputable def bDN (TS NI:Nat):SF:=ao (dL (fq false (du (bO TS 1) (cV 0))) (ao (dS) (aC)) (aC)) (ao (bv (gV 2) (du (bO TS 0) (cV 0))) (ao (dM 64 (gV 3) (cV 1) (oJ TS NI) (aC)) (aC)))
section
variable{TS NI ep T d:Nat}{keys:List Int}{sc:List (List Int)}{st:List AO}{S:fb}{kt:Nat->Option (List AV)}
theorem qW {s n:Int}(h:S.np[bI keys s]? =some n):k7 keys S s=⟨S.np.set (bI keys s) (n - 1),bb (n - 1 == 0) (S.rdy++[s]) S.rdy,S.psd,S.fin,S.bd⟩:=by
 unfold k7
 rw[aS,h]
 show(fI (n - 1) λ n=>(⟨cr S.np (bI keys s) n,bb (n == 0) (S.rdy++[s]) S.rdy,S.psd,S.fin,S.bd⟩:fb))=_
 rw[ek,bw]
theorem wA (nd:keys.Nodup){s:Int}(hs:s∈keys)(h:TSo TS NI ep keys sc st S)(hr:S.rdy.length<=500)(hT:4+3*keys.length<=T){a b c e:Option AV}:
  ∃st' e',oI TS NI ⟨[],d,true,kt⟩ ⟨st,[some (.ref 0),some (.ref T),some (.ref 2),a,b,c,some (.int s),e]⟩= .nx ⟨st',[some (.ref 0),some (.ref T),some (.ref 2),a,b,c,some (.int s),e']⟩/\TSo TS NI ep keys sc st' (k7 keys S s)/\
   st'.length=st.length/\(∀(p:Nat),4+3*keys.length<=p->st'[p]? =st[p]?)/\(k7 keys S s).rdy.length<=S.rdy.length+1:=by
 have hk:=eH hs
 refine ez (pb h hk) λ n l hn hl=>?_
 refine em (h.setN (n - 1) hk hn hl) λ st1 e1 h1 l1 p1=>?_
 have hlt:bI keys s<S.np.length:=(aa.mp hn).1
 have hn1:(S.np.set (bI keys s) (n - 1))[bI keys s]? =some (n - 1):=aH hlt
 rw[qW hn]
 have s1:bv (gV 7) (gd (cV 2) (cV 6)) ⟨[],d,true,kt⟩ ⟨st,[some (.ref 0),some (.ref T),some (.ref 2),a,b,c,some (.int s),e]⟩= .nx ⟨st,[some (.ref 0),some (.ref T),some (.ref 2),a,b,c,some (.int s),some (.ref (4+3*bI keys s))]⟩:=
  e_ (qB (x:=.ref 2) (y:=.int s) rfl rfl (h.look nd hk)) rfl
 have s2:fP (cP NI 1) (dW NI 1) eW (cV 7) (cC (.int 1)) ⟨[],d,true,kt⟩ ⟨st,[some (.ref 0),some (.ref T),some (.ref 2),a,b,c,some (.int s),some (.ref (4+3*bI keys s))]⟩= .nx ⟨st1,[some (.ref 0),some (.ref T),some (.ref 2),a,b,c,some (.int s),some (.ref (4+3*bI keys s))]⟩:=
  pR (x:=.ref (4+3*bI keys s)) (m:=n) (n:=1) (c:=n - 1) (σ1:=⟨st,[some (.ref 0),some (.ref T),some (.ref 2),a,b,c,some (.int s),some (.ref (4+3*bI keys s))]⟩) (σ2:=⟨st,[some (.ref 0),some (.ref T),some (.ref 2),a,b,c,some (.int s),some (.ref (4+3*bI keys s))]⟩) (λ _ _=>rfl) rfl (h.slot (j:=1) hk hn hl rfl) rfl e1
 have t3:l8 (du (cP NI 1) (cV 7)) (cC (.int 0)) ⟨[],d,true,kt⟩ ⟨st1,[some (.ref 0),some (.ref T),some (.ref 2),a,b,c,some (.int s),some (.ref (4+3*bI keys s))]⟩= .ok (n - 1 == 0) ⟨st1,[some (.ref 0),some (.ref T),some (.ref 2),a,b,c,some (.int s),some (.ref (4+3*bI keys s))]⟩:=by
  unfold l8
  rw[gf (x:=.ref (4+3*bI keys s)) (v:=.int (n - 1)) (σ1:=⟨st1,[some (.ref 0),some (.ref T),some (.ref 2),a,b,c,some (.int s),some (.ref (4+3*bI keys s))]⟩) rfl (h1.slot (j:=1) hk hn1 hl rfl)]
  rfl
 unfold oI
 rw[bP s1,bP s2]
 cases q:n - 1 == 0 with
 |false=>
  rw[q]at t3
  have s3:dL (l8 (du (cP NI 1) (cV 7)) (cC (.int 0))) (ao (cu (cc .list cD (du (bO TS 1) (cV 0)) (aq (cV 6) (aI)))) (aC)) (aC) ⟨[],d,true,kt⟩ ⟨st1,[some (.ref 0),some (.ref T),some (.ref 2),a,b,c,some (.int s),some (.ref (4+3*bI keys s))]⟩= .nx ⟨st1,[some (.ref 0),some (.ref T),some (.ref 2),a,b,c,some (.int s),some (.ref (4+3*bI keys s))]⟩:=(i7 t3).trans rfl
  rw[bP s3]
  exact⟨st1,_,rfl,h1,l1,p1,Nat.le_succ _⟩
 |true=>
  rw[q]at t3
  refine eA (h1.setR (S.rdy++[s])) λ h2 p2=>?_
  have s3:dL (l8 (du (cP NI 1) (cV 7)) (cC (.int 0))) (ao (cu (cc .list cD (du (bO TS 1) (cV 0)) (aq (cV 6) (aI)))) (aC)) (aC) ⟨[],d,true,kt⟩ ⟨st1,[some (.ref 0),some (.ref T),some (.ref 2),a,b,c,some (.int s),some (.ref (4+3*bI keys s))]⟩= .nx ⟨st1.set 3 (.list ((S.rdy++[s]).map .int)),[some (.ref 0),some (.ref T),some (.ref 2),a,b,c,some (.int s),some (.ref (4+3*bI keys s))]⟩:=by
   refine(i7 t3).trans ?_
   refine(bP (uq (v:=.none) (σ1:=⟨st1.set 3 (.list ((S.rdy++[s]).map .int)),[some (.ref 0),some (.ref T),some (.ref 2),a,b,c,some (.int s),some (.ref (4+3*bI keys s))]⟩) ?_)).trans rfl
   unfold cc
   rw[gf (x:=.ref 0) (v:=.ref 3) (σ1:=⟨st1,[some (.ref 0),some (.ref T),some (.ref 2),a,b,c,some (.int s),some (.ref (4+3*bI keys s))]⟩) rfl (h1.at1 (i:=1) rfl)]
   show bb (iD .list (.ref 3) st1) _ _=_
   rw[fx h1.h3]
   show Op.b (mU (.ref 3) st1) _ _=_
   rw[gk h1.h3 (cg _ (by show S.rdy.length<=1000;exact ω202 hr))]
   show RV.ok .none ⟨cr st1 3 (.list (S.rdy.map .int++[.int s])),_⟩=_
   rw[bw,List.map_append]
   rfl
  rw[bP s3]
  refine⟨_,_,rfl,h2,by rw[List.length_set];exact l1,λ p hp=>(p2 p hp).trans (p1 p hp),?_⟩
  show(S.rdy++[s]).length<=_
  rw[aU]
  exact Nat.le_refl _
theorem uN (nd:keys.Nodup)(hT:4+3*keys.length<=T){i:Nat}{all:List Int}(hi:sc[i]? =some all)(hik:i<keys.length){a b c:Option AV}:∀{ss:List Int} {j fuel:Nat} {st:List AO} {S:fb} {v e:Option AV},all.drop j=ss->ss.length<fuel->TSo TS NI ep keys sc st S->(∀s∈ss,s∈keys)->S.rdy.length+ss.length<=500->
  ∃st' v' e',cb fuel (gV 6) (oI TS NI) aC ⟨[],d,true,kt⟩ (.li (6+3*i)) j ⟨st,[some (.ref 0),some (.ref T),some (.ref 2),a,b,c,v,e]⟩= .nx ⟨st',[some (.ref 0),some (.ref T),some (.ref 2),a,b,c,v',e']⟩/\TSo TS NI ep keys sc st' (eh keys ss S)/\
   st'.length=st.length/\(∀(p:Nat),4+3*keys.length<=p->st'[p]? =st[p]?)/\(eh keys ss S).rdy.length<=S.rdy.length+ss.length:=by
 have li:∀{st:List AO} {S:fb},TSo TS NI ep keys sc st S->st[6+3*i]? =some (.list (all.map .int)):=λ{st S} h=>by
  have hk:=ae hik
  exact(h.hn i _ _ all hk (ae (by rw[h.l1];exact hik)) hi).2.2
 intro ss
 induction ss with
 |nil=>
  intro j fuel st S v e hd hf h _ _
  cases fuel with
  |zero=>exact absurd hf (aM _)
  |succ fuel=>
   refine⟨st,v,e,?_,h,rfl,λ _ _=>rfl,Nat.le_refl _⟩
   show Op.b (b7 (.li (6+3*i)) j st) _ _=_
   have:b7 (.li (6+3*i)) j st=some none:=by
    rw[mL (li h),aB,aK.mpr (List.drop_eq_nil_iff.mp hd)]
    rfl
   rw[this]
   rfl
 |cons s ss ih=>
  intro j fuel st S v e hd hf h hm hr
  cases fuel with
  |zero=>exact absurd hf (bK _)
  |succ fuel=>
   have hlt:j<all.length:=by
    apply Nat.lt_of_not_le
    intro q
    rw[List.drop_eq_nil_iff.mpr q]at hd
    cases hd
   rw[List.drop_eq_getElem_cons hlt]at hd
   refine eA (List.cons.inj hd) λ hy hd=>?_
   rw[bL]at hr
   refine dF (wA (d:=d) (kt:=kt) (a:=a) (b:=b) (c:=c) (e:=e) nd (hm s aT) h (by exact ω203 hr) hT) λ st1 e1 r1 h1 l1 p1 q1=>?_
   refine b5 (ih (j:=j+1) (fuel:=fuel) (st:=st1) (v:=some (.int s)) (e:=e1) hd (bu hf) h1 (λ x hx=>hm x (ar _ hx)) (by exact ω204 q1 hr)) λ st2 v2 e2 r2 h2 l2 p2 q2=>?_
   refine⟨st2,v2,e2,?_,h2,l2.trans l1,λ p hp=>(p2 p hp).trans (p1 p hp),by rw[bL];show(eh keys ss (k7 keys S s)).rdy.length<=_;exact ω190 q2 q1⟩
   show Op.b (b7 (.li (6+3*i)) j st) _ _=_
   have:b7 (.li (6+3*i)) j st=some (some (.int s)):=by
    rw[mL (li h),aB,ae hlt,hy]
    rfl
   rw[this]
   show(RF.rec (motive:=λ _=>RF) .no (cb fuel (gV 6) (oI TS NI) aC _ (.li (6+3*i)) (Nat.succ j)) .nx (cb fuel (gV 6) (oI TS NI) aC _ (.li (6+3*i)) (Nat.succ j)) .rt (oI TS NI ⟨[],d,true,kt⟩ ⟨st,[some (.ref 0),some (.ref T),some (.ref 2),a,b,c,some (.int s),e]⟩):RF)=_
   rw[r1]
   exact r2
noncomputable def wP (keys:List Int)(sc:List (List Int)):Prop:=∀l∈sc,(∀s∈l,s∈keys)/\l.length<50
theorem zd (nd:keys.Nodup)(hT:4+3*keys.length<=T)(hsc:wP keys sc){k:Int}(hk0:k∈keys)(h:TSo TS NI ep keys sc st S)(hp:S.np[bI keys k]? =some (-1))(hr:S.rdy.length<=400)(hb:S.bd<=900){b c e f:Option AV}:
  ∃st' b' c' e' f',oJ TS NI ⟨[],d,true,kt⟩ ⟨st,[some (.ref 0),some (.ref T),some (.ref 2),some (.int k),b,c,e,f]⟩= .nx ⟨st',[some (.ref 0),some (.ref T),some (.ref 2),some (.int k),b',c',e',f']⟩/\TSo TS NI ep keys sc st' (dn1 keys sc S k)/\
   st'.length=st.length/\(∀(p:Nat),4+3*keys.length<=p->st'[p]? =st[p]?)/\(dn1 keys sc S k).rdy.length<=S.rdy.length+50/\(dn1 keys sc S k).bd=S.bd+1:=by
 have hk:=eH hk0
 refine ez (pb h hk) λ n l hn hl=>?_
 refine eA (hsc l (ac hl)) λ hl1 hl2=>?_
 refine em (h.setN (-2) hk hn hl) λ st1 e1 h1 l1 p1=>?_
 have hik:=(aa.mp hk).1
 let P:=AV.ref (4+3*bI keys k)
 have s1:dL (fq false (ny 4 (cc .dict mR (cV 2) (aq (cV 3) (aI))))) (ao (dS) (aC)) (aC) ⟨[],d,true,kt⟩ ⟨st,[some (.ref 0),some (.ref T),some (.ref 2),some (.int k),b,c,e,f]⟩= .nx ⟨st,[some (.ref 0),some (.ref T),some (.ref 2),some (.int k),some P,c,e,f]⟩:=by
  refine(i7 (ic (r:=4+3*bI keys k) (σ1:=⟨st,[some (.ref 0),some (.ref T),some (.ref 2),some (.int k),some P,c,e,f]⟩) ?_)).trans rfl
  have g:cc .dict mR (cV 2) (aq (cV 3) (aI)) ⟨[],d,true,kt⟩ ⟨st,[some (.ref 0),some (.ref T),some (.ref 2),some (.int k),b,c,e,f]⟩= .ok P ⟨st,[some (.ref 0),some (.ref T),some (.ref 2),some (.int k),b,c,e,f]⟩:=by
   unfold cc
   show bb (iD .dict (.ref 2) st) _ _=_
   have:iD .dict (.ref 2) st=true:=by
    exact mn h.h2
   rw[this]
   show Op.b (uQ (.ref 2) (.int k) st) _ _=_
   rw[h.look nd hk]
   rfl
  unfold ny
  rw[g]
  rfl
 have s2:bv (gV 5) (du (cP NI 1) (cV 4)) ⟨[],d,true,kt⟩ ⟨st,[some (.ref 0),some (.ref T),some (.ref 2),some (.int k),some P,c,e,f]⟩= .nx ⟨st,[some (.ref 0),some (.ref T),some (.ref 2),some (.int k),some P,some (.int (-1)),e,f]⟩:=
  e_ (gf (x:=P) (v:=.int (-1)) (σ1:=⟨st,[some (.ref 0),some (.ref T),some (.ref 2),some (.int k),some P,c,e,f]⟩) rfl (h.slot (j:=1) hk hp hl rfl)) rfl
 have s3:dL (cK (λ a b=>a != b) (cV 5) (cC (.int (-1)))) (ao (dL (cK (λ a b=>decide (b<=a)) (cV 5) (cC (.int 0))) (ao (dS) (aC)) (ao (dL (l8 (cV 5) (cC (.int (-2)))) (ao (dS) (aC)) (ao (dS) (aC))) (aC))) (aC)) (aC) ⟨[],d,true,kt⟩ ⟨st,[some (.ref 0),some (.ref T),some (.ref 2),some (.int k),some P,some (.int (-1)),e,f]⟩= .nx ⟨st,[some (.ref 0),some (.ref T),some (.ref 2),some (.int k),some P,some (.int (-1)),e,f]⟩:=
  (i7 (c:=false) (σ1:=⟨st,[some (.ref 0),some (.ref T),some (.ref 2),some (.int k),some P,some (.int (-1)),e,f]⟩) rfl).trans rfl
 have s4:bv (lZ (dW NI 1) (cV 4)) (cC (.int (-2))) ⟨[],d,true,kt⟩ ⟨st,[some (.ref 0),some (.ref T),some (.ref 2),some (.int k),some P,some (.int (-1)),e,f]⟩= .nx ⟨st1,[some (.ref 0),some (.ref T),some (.ref 2),some (.int k),some P,some (.int (-1)),e,f]⟩:=by
  refine e_ (v:=.int (-2)) (σ1:=⟨st,[some (.ref 0),some (.ref T),some (.ref 2),some (.int k),some P,some (.int (-1)),e,f]⟩) rfl ?_
  show Op.b (dW NI 1 P (.int (-2)) st) _ _=_
  rw[e1]
  rfl
 refine b5 (uN (T:=T) (d:=d) (kt:=kt) (a:=some (.int k)) (b:=some P) (c:=some (.int (-1))) nd hT hl hik (ss:=l) (j:=0) (fuel:=64) (v:=e) (e:=f) rfl (by exact ω191 hl2) h1 hl1 (by show S.rdy.length+l.length<=500;exact ω192 hr hl2)) λ st2 e2 f2 r2 h2 l2' p2 q2=>?_
 have s5:dM 64 (gV 6) (du (cP NI 2) (cV 4)) (oI TS NI) (aC) ⟨[],d,true,kt⟩ ⟨st1,[some (.ref 0),some (.ref T),some (.ref 2),some (.int k),some P,some (.int (-1)),e,f]⟩= .nx ⟨st2,[some (.ref 0),some (.ref T),some (.ref 2),some (.int k),some P,some (.int (-1)),e2,f2]⟩:=by
  have hn1:(S.np.set (bI keys k) (-2))[bI keys k]? =some (-2):=aH (aa.mp hn).1
  refine Eq.trans ?_ r2
  unfold dM
  show(du (cP NI 2) (cV 4) ⟨[],d,true,kt⟩ ⟨st1,[some (.ref 0),some (.ref T),some (.ref 2),some (.int k),some P,some (.int (-1)),e,f]⟩).b _ _=_
  rw[gf (x:=P) (v:=.ref (6+3*bI keys k)) (σ1:=⟨st1,[some (.ref 0),some (.ref T),some (.ref 2),some (.int k),some P,some (.int (-1)),e,f]⟩) rfl (h1.slot (j:=2) hk hn1 hl rfl)]
  show Op.b (cF kt (.ref (6+3*bI keys k)) st1) _ _=_
  have:cF kt (.ref (6+3*bI keys k)) st1=some (.li (6+3*bI keys k)):=by
   exact gn ((h1.hn _ _ _ l hk hn1 hl).2.2)
  rw[this]
  rfl
 have bdEq:∀(ss:List Int) (S:fb),(eh keys ss S).bd=S.bd/\(eh keys ss S).psd=S.psd:=by
  intro ss
  induction ss with
  |nil=>intro S;exact⟨rfl,rfl⟩
  |cons s ss ih=>
   intro S
   have:(k7 keys S s).bd=S.bd/\(k7 keys S s).psd=S.psd:=by
    unfold k7
    cases cy S.np (bI keys s)with
    |none=>exact⟨rfl,rfl⟩
    |some m=>
     show(fI (m - 1) λ n=>(⟨cr S.np (bI keys s) n,bb (n == 0) (S.rdy++[s]) S.rdy,S.psd,S.fin,S.bd⟩:fb)).bd=_/\(fI (m - 1) λ n=>(⟨cr S.np (bI keys s) n,bb (n == 0) (S.rdy++[s]) S.rdy,S.psd,S.fin,S.bd⟩:fb)).psd=_
     rw[ek]
     exact⟨rfl,rfl⟩
   refine eA (ih (k7 keys S s)) λ x y=>?_
   exact⟨x.trans this.1,y.trans this.2⟩
 refine em (h2.setA (i:=3) (x:=(eh keys l {S with np:=S.np.set (bI keys k) (-2)}).fin+1) (psd':=(eh keys l {S with np:=S.np.set (bI keys k) (-2)}).psd) (fin':=(eh keys l {S with np:=S.np.set (bI keys k) (-2)}).fin+1) (by rw[(bdEq _ _).1];exact hb) nofun rfl) λ st3 e3 h3 l3 p3=>?_
 have s6:fP (bO TS 3) (hY TS 3) dN (cV 0) (cC (.int 1)) ⟨[],d,true,kt⟩ ⟨st2,[some (.ref 0),some (.ref T),some (.ref 2),some (.int k),some P,some (.int (-1)),e2,f2]⟩= .nx ⟨st3,[some (.ref 0),some (.ref T),some (.ref 2),some (.int k),some P,some (.int (-1)),e2,f2]⟩:=
  pR (x:=.ref 0) (σ1:=⟨st2,[some (.ref 0),some (.ref T),some (.ref 2),some (.int k),some P,some (.int (-1)),e2,f2]⟩) (σ2:=⟨st2,[some (.ref 0),some (.ref T),some (.ref 2),some (.int k),some P,some (.int (-1)),e2,f2]⟩) (λ _ _=>rfl) rfl (h2.at1 (i:=3) rfl) rfl e3
 have e4:dn1 keys sc S k={(eh keys l {S with np:=S.np.set (bI keys k) (-2)})with fin:=(eh keys l {S with np:=S.np.set (bI keys k) (-2)}).fin+1,bd:=(eh keys l {S with np:=S.np.set (bI keys k) (-2)}).bd+1}:=by
  unfold dn1
  rw[aS,hl,bw]
  rfl
 refine⟨st3,some P,some (.int (-1)),e2,f2,?_,by rw[e4];exact h3,l3.trans (l2'.trans l1),λ p hp=>(p3 p hp).trans ((p2 p hp).trans (p1 p hp)),?_,?_⟩
 ·unfold oJ
  rw[bP s1,bP s2,bP s3,bP s4,bP s5,bP s6]
  rfl
 ·rw[e4]
  show(eh keys l _).rdy.length<=_
  have:(eh keys l {S with np:=S.np.set (bI keys k) (-2)}).rdy.length<=S.rdy.length+l.length:=q2
  exact ω193 this hl2
 ·rw[e4]
  show(eh keys l _).bd+1=_
  rw[(bdEq _ _).1]
theorem wB (nd:keys.Nodup)(hT:4+3*keys.length<=T)(hsc:wP keys sc){all:List Int}:∀{ks:List Int} {j fuel:Nat} {st:List AO} {S:fb} {a b c e f:Option AV},all.drop j=ks->ks.length<fuel->TSo TS NI ep keys sc st S->st[T]? =some (.tup (all.map .int))->(∀k∈ks,k∈keys)->okD keys sc ks S=true->S.rdy.length+50*ks.length<=400->S.bd+ks.length<=900->
  ∃st' a' b' c' e' f',cb fuel (gV 3) (oJ TS NI) aC ⟨[],d,true,kt⟩ (.tu T) j ⟨st,[some (.ref 0),some (.ref T),some (.ref 2),a,b,c,e,f]⟩= .nx ⟨st',[some (.ref 0),some (.ref T),some (.ref 2),a',b',c',e',f']⟩/\TSo TS NI ep keys sc st' (dnL keys sc ks S)/\st'.length=st.length:=by
 intro ks
 induction ks with
 |nil=>
  intro j fuel st S a b c e f hd hf h ht _ _ _ _
  cases fuel with
  |zero=>exact absurd hf (aM _)
  |succ fuel=>
   refine⟨st,a,b,c,e,f,?_,h,rfl⟩
   show Op.b (b7 (.tu T) j st) _ _=_
   have:b7 (.tu T) j st=some none:=by
    rw[iZ (ht),aB,aK.mpr (List.drop_eq_nil_iff.mp hd)]
    rfl
   rw[this]
   rfl
 |cons k ks ih=>
  intro j fuel st S a b c e f hd hf h ht hm ho hr hb
  cases fuel with
  |zero=>exact absurd hf (bK _)
  |succ fuel=>
   have hlt:j<all.length:=by
    apply Nat.lt_of_not_le
    intro q
    rw[List.drop_eq_nil_iff.mpr q]at hd
    cases hd
   rw[List.drop_eq_getElem_cons hlt]at hd
   refine eA (List.cons.inj hd) λ hy hd=>?_
   rw[bL]at hr hb
   refine Op.elim (show Op.b (cy S.np (bI keys k)) false (λ m=>bb (m == -1) (okD keys sc ks (dn1 keys sc S k)) false)=true from ho) λ m ho1 ho2=>?_
   refine ay ho2 λ ho3 ho4=>?_
   rw[aS,eq_of_beq ho3]at ho1
   refine oo (zd (d:=d) (kt:=kt) (b:=b) (c:=c) (e:=e) (f:=f) nd hT hsc (hm k aT) h ho1 (by exact ω194 hr) (by exact ω195 hb)) λ st1 b1 c1 e1 f1 r1 h1 l1 p1 q1 w1=>?_
   refine l6 (ih (j:=j+1) (fuel:=fuel) (st:=st1) (a:=some (.int k)) (b:=b1) (c:=c1) (e:=e1) (f:=f1) hd (bu hf) h1 ((p1 T hT).trans ht) (λ x hx=>hm x (ar _ hx)) ho4 (by exact ω196 q1 hr) (by exact ω197 w1 hb)) λ st2 a2 b2 c2 e2 f2 r2 h2 l2=>?_
   refine⟨st2,a2,b2,c2,e2,f2,?_,h2,l2.trans l1⟩
   show Op.b (b7 (.tu T) j st) _ _=_
   have:b7 (.tu T) j st=some (some (.int k)):=by
    rw[iZ (ht),aB,ae hlt,hy]
    rfl
   rw[this]
   show(RF.rec (motive:=λ _=>RF) .no (cb fuel (gV 3) (oJ TS NI) aC _ (.tu T) (Nat.succ j)) .nx (cb fuel (gV 3) (oJ TS NI) aC _ (.tu T) (Nat.succ j)) .rt (oJ TS NI ⟨[],d,true,kt⟩ ⟨st,[some (.ref 0),some (.ref T),some (.ref 2),some (.int k),b,c,e,f]⟩):RF)=_
   rw[r1]
   exact r2
theorem wo (l1:S.np.length=keys.length)(l2:sc.length=keys.length):4+3*keys.length<=(bY TS NI ep keys sc S).length:=by
 have h0:=mu (TS:=TS) (NI:=NI) (ep:=ep) l1 l2 []
 rw[List.append_nil]at h0
 rcases Nat.lt_or_ge (bY TS NI ep keys sc S).length (4+3*keys.length)with q|q
 ·exact absurd ((eG h0.sel).lt _ (List.mem_range.mpr q)) (aM _)
 ·exact q
theorem zc (nd:keys.Nodup)(hsc:wP keys sc)(l1:S.np.length=keys.length)(l2:sc.length=keys.length){ks:List Int}(hk:ks.length<=5)(hb:S.bd<=800)(hr:S.rdy.length<=100)(hm:∀k∈ks,k∈keys)(ho:okD keys sc ks S=true):
  ∃st2,tz 1 8 (bDN TS NI) d true kt (.ref 0::ks.map .int) (bY TS NI ep keys sc S)=some (.none,st2)/\TSo TS NI ep keys sc st2 (dnL keys sc ks S):=by
 have h0:=mu (TS:=TS) (NI:=NI) (ep:=ep) l1 l2 [.tup (ks.map .int)]
 have hT:=wo (TS:=TS) (NI:=NI) (ep:=ep) l1 l2
 generalize hE:bY TS NI ep keys sc S=E at h0 hT ⊢
 have ht:(E++[AO.tup (ks.map .int)])[E.length]? =some (.tup (ks.map .int)):=ii
 refine l6 (wB (d:=d) (kt:=kt) nd hT hsc (ks:=ks) (j:=0) (fuel:=64) (a:=none) (b:=none) (c:=none) (e:=none) (f:=none) rfl (by exact sz hk) h0 ht hm ho (by exact ω199 hr hk) (by exact ω200 hb hk)) λ st1 a1 b1 c1 e1 f1 r1 h1 q1=>?_
 refine⟨st1,?_,h1⟩
 unfold tz
 have z1:Nat.ble 1 (AV.ref 0::ks.map AV.int).length=true:=aF (by simp)
 have z2:Nat.ble (AV.ref 0::ks.map AV.int).length big=true:=aF (by simp[big];exact ω201 hk)
 rw[z1,z2]
 show tA (bDN TS NI ⟨[],d,true,kt⟩ ⟨E++[.tup (ks.map .int)],[some (.ref 0),some (.ref E.length),none,none,none,none,none,none]⟩)=_
 have s1:dL (fq false (du (bO TS 1) (cV 0))) (ao (dS) (aC)) (aC) ⟨[],d,true,kt⟩ ⟨E++[.tup (ks.map .int)],[some (.ref 0),some (.ref E.length),none,none,none,none,none,none]⟩= .nx ⟨E++[.tup (ks.map .int)],[some (.ref 0),some (.ref E.length),none,none,none,none,none,none]⟩:=
  (i7 (ic (r:=3) (σ1:=⟨E++[.tup (ks.map .int)],[some (.ref 0),some (.ref E.length),none,none,none,none,none,none]⟩) (gf (x:=.ref 0) rfl (h0.at1 (i:=1) rfl)))).trans rfl
 have s2:bv (gV 2) (du (bO TS 0) (cV 0)) ⟨[],d,true,kt⟩ ⟨E++[.tup (ks.map .int)],[some (.ref 0),some (.ref E.length),none,none,none,none,none,none]⟩= .nx ⟨E++[.tup (ks.map .int)],[some (.ref 0),some (.ref E.length),some (.ref 2),none,none,none,none,none]⟩:=
  e_ (gf (x:=.ref 0) (v:=.ref 2) (σ1:=⟨E++[.tup (ks.map .int)],[some (.ref 0),some (.ref E.length),none,none,none,none,none,none]⟩) rfl (h0.at1 (i:=0) rfl)) rfl
 have s3:dM 64 (gV 3) (cV 1) (oJ TS NI) (aC) ⟨[],d,true,kt⟩ ⟨E++[.tup (ks.map .int)],[some (.ref 0),some (.ref E.length),some (.ref 2),none,none,none,none,none]⟩= .nx ⟨st1,[some (.ref 0),some (.ref E.length),some (.ref 2),a1,b1,c1,e1,f1]⟩:=by
  refine Eq.trans ?_ r1
  unfold dM
  show Op.b (cF kt (.ref E.length) (E++[.tup (ks.map .int)])) _ _=_
  have:cF kt (.ref E.length) (E++[AO.tup (ks.map .int)])=some (.tu E.length):=by
   exact gn (ht)
  rw[this]
  rfl
 unfold bDN
 rw[bP s1,bP s2,bP s3]
 rfl
end
section
variable{G:Gd}{N:Nm}{C:Cx}{ρ:List Addr}{s:Shared}{σ σ' σ'':AS}
end
section
variable{O:ei}{D:Dn}{X W:Nat->Prop}{env:VE}{o:pV}
theorem kR:ET O D X W env gH false:=λ σ R=>⟨σ.st,rfl,ah _⟩
theorem kQ {a b:TF}{c:Bool}(ha:ET O D X W env a false)(hb:ET O D X W env b c):ET O D X W env (p7 a b) c:=λ σ R=>by
 refine aQ (ha σ R) λ st'1 h1 h2=>?_
 refine aQ (hb _ (R.grow h2)) λ st'2 h3 h4=>?_
 refine⟨st'2,?_,h2.trans h4⟩
 unfold p7
 rw[h1]
 exact h3
end
noncomputable abbrev ZF:=Dn->AS->Option AS
section
variable{G:Gd}{N:Nm}
noncomputable def Rz (G:Gd)(C:Cx)(ρ:List Addr){α:Type}(t:Sem α)(s:Shared)(σ':AS):Prop:=
 ∀(E:Value->Shared->Prop) (Q:α->Shared->Prop),PassesOwn (model G.prog G.w) C.A C.env E->
  (∀ρ' H h' tk' e,ρ<+:ρ'->SR G C ρ' σ' H->Heap.NewExc H h' e "ValueError"->E (.ref e) {s with heap:=h',toks:=tk'})->wpAny (model G.prog G.w) C.A t Q E s
noncomputable def ZS (G:Gd)(N:Nm)(z:ZF)(e:Stmt):Prop:=∀(C:Cx),C.is N->∀(σ σ':AS),z C.dn σ=some σ'->∀(ρ:List Addr) (s:Shared),SR G C ρ σ s.heap->Rz G C ρ (exec e C.env) s σ'
noncomputable def wO (G:Gd)(N:Nm)(z:ZF)(e:List Stmt):Prop:=∀(C:Cx),C.is N->∀(σ σ':AS),z C.dn σ=some σ'->∀(ρ:List Addr) (s:Shared),SR G C ρ σ s.heap->Rz G C ρ (execs e C.env) s σ'
noncomputable def zNo:ZF:=λ _ _=>none
noncomputable def x0 (a:SF)(z:ZF):ZF:=λ D σ=>RF.rec (motive:=λ _=>Option AS) none (λ σ1=>z D σ1) (λ _=>none) (λ _=>none) (λ _ _=>none) (a D σ)
noncomputable def zIf (t:TF)(a b:ZF):ZF:=λ D σ=>(t D σ).b none λ x σ1=>bb x (a D σ1) (b D σ1)
noncomputable def zFor (t:GF)(a:EF)(z:ZF):ZF:=λ D σ=>bb D.hn ((a D σ).b none λ x σ1=>Op.b (cF D.kt x σ1.st) none λ it=>Op.b (b7 it 0 σ1.st) none λ y=>Op.b y none λ v=>(t D v σ1).b none λ σ2=>z D σ2) none
noncomputable def zRs (a:EF):ZF:=λ D σ=>bb D.hn ((a D σ).b none λ x σ1=>x.i none λ i=>bb (Nat.ble i.natAbs 1000) (some σ1) none) none
theorem xq {es:List Stmt}:wO G N zNo es:=λ _ _ _ _ h=>by cases h
theorem pY {z:ZF}{e:Stmt}{es:List Stmt}(ha:ZS G N z e):wO G N z (e::es):=λ C hC σ σ' h ρ s S E Q pE hE=>wpAny_execs_cons (ha C hC σ σ' h ρ s S E _ pE hE)
theorem pX {a:SF}{z:ZF}{e:Stmt}{es:List Stmt}(ha:SS G N a e)(hz:wO G N z es):wO G N (x0 a z) (e::es):=by
 intro C hC σ σ' h ρ s S E Q pE hE
 have ha':=ha C hC σ
 have h':(RF.rec (motive:=λ _=>Option AS) none (λ σ1=>z C.dn σ1) (λ _=>none) (λ _=>none) (λ _ _=>none) (a C.dn σ):Option AS)=some σ':=h
 generalize a C.dn σ=q at ha' h'
 cases q with
 |nx σ1=>
  refine wpAny_execs_cons (ha' nofun ρ s S E _ λ ρ1 u t'1 k'1 p'1 S'1 r'1=>?_)
  cases r'1
  exact hz C hC σ1 σ' h' ρ1 ⟨t'1,s.gens,s.drawn,k'1,s.os⟩ S'1 E Q pE λ ρ2 H t'2 k'2 e p'2=>hE ρ2 H t'2 k'2 e (p'1.trans p'2)
 |_=>cases h'
theorem xr {t:TF}{a b:ZF}{e:PySem.Expr}{x y:List Stmt}{p:Pos}(ht:ST G N t e)(ha:wO G N a x)(hb:wO G N b y):ZS G N (zIf t a b) (.If e x y p):=by
 intro C hC σ σ' h ρ s S E Q pE hE
 have ht':=ht C hC σ
 have h':((t C.dn σ).b none λ x σ1=>bb x (a C.dn σ1) (b C.dn σ1):Option AS)=some σ':=h
 generalize t C.dn σ=q at ht' h'
 cases q with
 |no=>cases h'
 |ok c σ1=>
  refine wpAny_If (ht' _ _ rfl ρ s S E _ λ ρ1 u t'1 k'1 p'1 S'1 r'1=>?_)
  cases(r'1)
  cases c with
  |true=>exact ha C hC σ1 σ' h' ρ1 ⟨t'1,s.gens,s.drawn,k'1,s.os⟩ S'1 E Q pE λ ρ2 H t'2 k'2 e p'2=>hE ρ2 H t'2 k'2 e (p'1.trans p'2)
  |false=>exact hb C hC σ1 σ' h' ρ1 ⟨t'1,s.gens,s.drawn,k'1,s.os⟩ S'1 E Q pE λ ρ2 H t'2 k'2 e p'2=>hE ρ2 H t'2 k'2 e (p'1.trans p'2)
theorem xY {t:GF}{a:EF}{z:ZF}{tgt e:PySem.Expr}{body orelse:List Stmt}{p:Pos}(ht:SG G N t tgt)(ha:SE G N a e)(hz:wO G N z body)(hlet:∀it v,letOwnedTupleGo tgt it v=pure ())
  (hf:∀env x,foldedSetIterable e env x=pure x):ZS G N (zFor t a z) (.For tgt e body orelse p):=by
 intro C hC σ σ' h ρ s S E Q pE hE
 refine ay h λ hn h=>?_
 refine RV.elim h λ x σ1 h1 h=>?_
 refine Op.elim h λ I h2 h=>Op.elim h λ y h3 h=>Op.elim h λ v h4 h=>?_
 subst h4
 refine RU.elim h λ σ2 h5 h6=>?_
 have hh:=S.ok.hh hn
 refine wpAny_For (ha C hC _ _ _ h1 ρ s S E _ λ ρ1 u t'1 k'1 p'1 S'1 r'1=>?_) (hf _)
 refine i6 (s:=⟨t'1,s.gens,s.drawn,k'1,s.os⟩) S'1 h2 r'1 λ ob h' hI ho' hk=>?_
 refine fT S'1.new λ n1 n2 n3=>?_
 have S'2:=S'1.ext hk
 refine codeAny_forLoop (I:=λ _ s'=>s'=⟨h',s.gens,s.drawn,k'1,s.os⟩) ?_ 1 rfl (hlet _)
 rintro n _ rfl
 refine jY (s:=⟨h',s.gens,s.drawn,k'1,s.os⟩) S'2 hh ho' hI h3 (λ q=>by cases q) ?_
 rintro w q x' h'1 tk1 ob'1 he hob hI1 rx
 cases q
 have S3:SR G (C.add t'1.objs.size ob'1) ρ1 σ1 h'1:=(S'2.extBut he n1 n2 n3).add hob n1 n2 n3
 refine ht (C.add t'1.objs.size ob'1) hC _ _ _ h5 ρ1 ⟨h'1,s.gens,s.drawn,tk1,s.os⟩ x' rx S3 _ _ λ ρ2 u t'2 k'2 p'2 S4 _=>?_
 refine wpAny_passesOwn pE (hz (C.add t'1.objs.size ob'1) hC σ2 σ' h6 ρ2 ⟨t'2,s.gens,s.drawn,k'2,s.os⟩ S4 E _ pE λ ρ3 H t'3 k'3 e p'3 S5 x=>?_)
 exact hE ρ3 H t'3 k'3 e (p'1.trans (p'2.trans p'3)) (S5.drop S.ok n3).1 x
theorem qw {n:Nat}(h:n<=1000):n.log2<10:=by
 by_cases h0:n=0
 ·subst h0;decide
 ·exact(Nat.log2_lt h0).mpr (dI h (by decide))
theorem v7 {i:Int}(h:i.natAbs<=1000):(Str.ofString (toString i)).length<=11:=by
 rw[PySem.ofString_length]
 exact int_text_length_le (by decide) (qw h)
theorem sA {a:EF}{e:PySem.Expr}{c1 c2:Str}{k1 k2:Nat}{np cp pos p1 p2 p3 p4:Pos}(hV:xS G N "ValueError" (.type "ValueError"))(ha:SE G N a e)(l1:c1.length<=100)(l2:c2.length<=100):
  ZS G N (zRs a) (.Raise (some (.Call (.Name "ValueError" np) [.JoinedStr [.Constant (.str c1) k1 p1,.FormattedValue e 114 none p2,.Constant (.str c2) k2 p3] p4] [] cp)) none pos):=by
 intro C hC σ σ' h ρ s S E Q pE hE
 refine ay h λ hn h=>?_
 refine RV.elim h λ x σ1 h1 h=>?_
 refine AV.i_elim h λ i zi h'=>ay h' λ hi h'=>?_
 clear h
 cases h'
 have hi:=aO hi
 refine wpAny_Raise_call F.excCall_ValueError F.excRaise_ValueError (S.ok.hh hn) rfl (hV C hC ρ s σ np _ _ S ⟨rfl,?_⟩)
 refine evalArgs_plain (spliced_cons (wpAny_JoinedStr (pos:=p4) ?_))
 have il:=v7 hi
 have hs:∀{n:Nat},n<=300->n<=sizeLine:=λ h=>by rw[sizeLine_eq];exact Nat.le_trans h (by decide)
 have e1:(Str.empty++c1).length<=100:=by rw[strLen_append];show 0+_<=_;rw[Nat.zero_add];exact l1
 have e2:(Str.empty++c1++Str.ofString (toString i)).length<=111:=by rw[strLen_append];exact Nat.add_le_add e1 il
 have e3:(Str.empty++c1++Str.ofString (toString i)++c2).length<=211:=by rw[strLen_append];exact Nat.add_le_add e2 l2
 refine wpAny_Constant_str ⟨c1,_,rfl,hs (Nat.le_trans e1 (by decide)),?_⟩
 refine wpAny_FormattedValue_repr (ha C hC _ _ _ h1 ρ ⟨s.heap,s.gens,s.drawn,s.toks+1,s.os⟩ S _ _ λ ρ1 u t'1 k'1 pp1 S'1 r'1=>?_)
 subst zi
 refine eE (show∃t,u= .int i t from r'1) λ t zz=>?_
 subst zz
 refine wpAny_pyReprObj_gives (typeIs_int _ i t) F.slot_int_repr F.entry_int_repr (F.args_int_repr_1 _) (gives_int_repr i t (Nat.lt_trans (qw hi) (by decide))) ?_ (hx:=hs (Nat.le_trans il (by decide)))
 refine wpAny_formatField_str ?_ ?_ (hs (Nat.le_trans il (by decide)))
 all_goals refine⟨_,_,rfl,hs (Nat.le_trans e2 (by decide)),wpAny_Constant_str ⟨c2,_,rfl,hs (Nat.le_trans e3 (by decide)),hs (Nat.le_trans e3 (by decide)),spliced_nil ⟨rfl,(by show 1<=_;exact hs (by decide)),λ h' e m=>hE ρ1 t'1 h' _ e pp1 S'1 m.newExc⟩⟩⟩
end
noncomputable def Fly (G:Gd)(C:Cx)(ρ:List Addr)(σ:AS)(e:Addr)(h:Heap):Prop:=
 ∃(H base:Heap) (l:List Env) (a0:Value),C.A.frames=some l/\Heap.FlyingW base l e (.type "ValueError") a0 h/\H.UpToSlots h/\∀h',base.StaysIn h'->H.UpToSlots h'->SR G C ρ σ h'
noncomputable def SCz (G:Gd)(z:Dn->List AV->AS->Option AS)(y:Value):Prop:=∀(C:Cx) (σ σ':AS) (vs:List AV),z C.dn vs σ=some σ'->∀(ρ:List Addr) (s:Shared) (xs:List Value),VRs G.KT ρ vs xs->SR G C ρ σ s.heap->
 ∀(R:Result->Shared->Prop),(∀ρ' e h' tk',ρ<+:ρ'->Fly G C ρ' σ' e h'->R (.error (.ref e)) {s with heap:=h',toks:=tk'})->codeAny (model G.prog G.w) C.A (.call y ⟨xs,[]⟩) R s
theorem Rep.caught {KT:b4}{B:Base}{ρ:List Addr}{st:List AO}{h h':Heap}(R:Rep KT B ρ st h){as:List Addr}(has:∀b∈as,b∉ρ/\(B b=none∨∃d,B b=some (.da d)/\∀vs,d≠.fields vs))(k:(hideAll h as).StaysIn h')(up:h.UpToSlots h'):Rep KT B ρ st h':=by
 refine⟨λ b x e=>?_,R.len,R.nd,R.off,λ i a o e1 e2=>?_⟩
 ·have q:=R.kept b x e
  by_cases hm:b∈as
  ·rcases(has b hm).2 with z|⟨d,z,hv⟩
   ·rw[z]at e;cases e
   ·rw[z]at e
    cases e
    refine aQ q λ o ho hd=>?_
    refine eE (up b o ho λ vs q=>hv vs (hd.symm.trans q)) λ sl hs=>?_
    exact⟨_,hs,hd⟩
  ·exact q.mono λ o ho=>k b o (hideAll_get _ ho hm)
 ·refine aQ (R.obj i a o e1 e2) λ ob ho r=>?_
  exact⟨ob,k a ob (hideAll_get _ ho λ hm=>(has a hm).1 (ac e1)),r⟩
noncomputable def zV (np n:Nat)(z:ZF)(D:Dn)(vs:List AV)(σ:AS):Option AS:=bb (Nat.ble np vs.length) (bb (Nat.ble vs.length big) (Nat.rec (motive:=λ _=>Option AS) none (λ d _=>Op.b (z ⟨[],d,D.hn,D.kt⟩ ⟨σ.st++[.tup (vs.drop np)],f_ (vs.take np++[.ref σ.st.length]) n⟩) none λ σ'=>some ⟨σ'.st,σ.fr⟩) D.d) none) none
section
variable{G:Gd}{N:Nm}{np n:Nat}{f:Addr}{fd:FuncData}{body:List Stmt}{z:ZF}
theorem te (F:sg G N np f fd body)(hb:wO G N z body):SCz G (zV np n z) (.ref f):=by
 intro C σ σ' vs h ρ s xs r S R hR
 refine ay h λ hl h=>?_
 refine ay h λ hz h=>?_
 rcases hd:C.d with _|d
 ·rw[show C.dn.d=0 from hd]at h;cases h
 rw[show C.dn.d=d+1 from hd]at h
 refine Op.elim (show Op.b (z ⟨[],d,C.hn,C.kt⟩ ⟨σ.st++[.tup (vs.drop np)],f_ (vs.take np++[.ref σ.st.length]) n⟩) none (λ σ'=>some (⟨σ'.st,σ.fr⟩:AS))=some σ' from h) λ σ1 hq h=>?_
 cases h
 have hl:=bA hl
 have hz:=bA hz
 unfold big at hz
 refine iM S.base λ oL R'0 b0 b1 b2 back=>?_
 have X:=S.kin
 have T:=S.ok.top _ S.rep.kept
 have hsz0:=Nat.le_trans S.ok.ab (Nat.le_of_lt S.lnlt)
 have ok:=S.ok
 refine aQ F.isAt λ o ho hdat=>?_
 have hlx:xs.length=vs.length:=r.length.symm
 have hxs:xs=xs.take np++xs.drop np:=(List.take_append_drop np xs).symm
 refine codeAny_call_function (fd:=fd) (body:=body) (by have:=ok.dep;exact ω4 this) (X _ _ ho) hdat F.co F.gen F.bd (codeRec_of X F.code) ?_
 rw[hxs,F.bind (xs.take np) (xs.drop np) (by rw[cO];exact ω47 hl hlx)]
 refine wpAny_bind (wpAny_newTuple ?_ (by rw[sizeLine_eq,List.length_drop];exact ω48 hlx hz))
 refine wpAny_pure ?_
 have hbig:1<s.heap.objs.size:=Nat.lt_trans (by decide) T.g.lt
 have R':=R'0.push hbig (ob:={cls:=.type "tuple",data:=.seq (xs.drop np).toArray}) (o:=.tup (vs.drop np)) rfl ⟨_,_,rfl,by simpa using(r.drop np).mono (ai _ _)⟩
 have hsz1:(s.heap.push {cls:=.type "tuple",data:=.seq (xs.drop np).toArray}).objs.size=s.heap.objs.size+1:=Heap.size_push ..
 have rr:VRs G.KT (ρ++[s.heap.objs.size]) (vs.take np++[.ref σ.st.length]) (xs.take np++[.ref s.heap.objs.size]):=by
  refine((r.take np).mono (ai _ _)).append (.cons ⟨_,?_,rfl⟩ .nil)
  rw[← R'0.len];simp
 generalize hH:s.heap.push {cls:=.type "tuple",data:=.seq (xs.drop np).toArray}=H at R' hsz1 ⊢
 have T1:H.NoLimit:=by
  rw[← hH]
  exact T.nolimit.keeps λ b o e=>av _ e
 have hlen2:(vs.take np++[AV.ref σ.st.length]).length=np+1:=by rw[aU,cO];simp;exact ω49 hl
 refine wpAny_newFunctionEnv F.cell ?_ (λ h'0 hns hsb=>⟨T1.fresh _ hsb,codeAny_func ?_⟩) F.kind
 ·intro x hx
  exact(F.loc x.1 (List.mem_of_mem_take (List.of_mem_zip hx).1)).1
 have hk:∀b o,H.get? b=some o->h'0.get? b=some o:=λ b o e=>hsb.extBut b o (Nat.ne_of_lt (Heap.lt_size e)) (av _ e)
 let C':Cx:=⟨C.B.add C.env.locals oL,C.A.deeper (callEnv fd H.objs.size f),callEnv fd H.objs.size f,N.vn,N.gs,[],d,C.hn,C.kt⟩
 have hLB:(C.B.add C.env.locals oL) H.objs.size=none:=by
  cases e:(C.B.add C.env.locals oL) H.objs.size with
  |none=>rfl
  |some x=>exact absurd (BO.ok.lt (xX hbig hsz1) (R'.kept _ _ e)) (aM _)
 have hB:∀h,Kept (C.B.add C.env.locals oL) h->Kept C.B h:=λ h k=>k.of_addB S.ok.Lb
 have ok':CxOk G C':=by
  refine⟨F.kind,F.gl,F.bi,F.nd,λ i x e _=>(F.loc x (ac e)).1,λ x hx=>(F.loc x hx).2,hLB,λ x hx=>F.glo x hx,?_,?_,λ q=>ok.hh q,λ h k=>ok.kin h (hB h k),λ h k=>ok.top h (hB h k),λ h k=>ok.tab h (hB h k),λ h k=>ok.b0 h (hB h k),?_,b1,b2,ok.X0,ok.T0,ok.ktok,?_⟩
  ·show C.A.depth+1+d<recursionLimit
   have:=ok.dep
   exact ω5 this (ω7 hd)
  ·show C.A.units+3+8*d+200<cLine
   have:=ok.uni
   exact ω6 this (ω7 hd)
  ·exact Nat.le_trans hsz0 (show s.heap.objs.size<=H.objs.size by exact ω50 hsz1)
  ·refine aQ ok.fl λ l h1 h2=>?_
   refine⟨callEnv fd H.objs.size f::l,by show C.A.frames.map _=_;rw[h1];rfl,λ e he=>?_⟩
   rcases List.mem_cons.mp he with rfl|he
   ·exact⟨by show fd.scope.kind≠_;rw[F.kind];nofun,_,rfl,.inl rfl⟩
   ·exact(h2 e he).mono b0.1 b0.2
 have S':SR G C' (ρ++[s.heap.objs.size]) ⟨σ.st++[.tup (vs.drop np)],f_ (vs.take np++[.ref σ.st.length]) n⟩ h'0:=by
  refine⟨R'.ext hk,⟨_,hns,λ i v e=>?_⟩,λ q=>aM _ (R'.lt q),λ i k e=>(by cases e),ok'⟩
  have e1:=m3 e
  refine aQ (rr.get e1) λ x hx rx=>?_
  have hi:i<np+1:=by rw[← hlen2];exact(aa.mp e1).1
  have hi':i<N.vn.length:=aN hi F.np
  have e2:(N.vn.take (np+1))[i]? =some N.vn[i]:=by rw[List.getElem?_take_of_lt hi];exact ae hi'
  exact⟨N.vn[i],x,ae hi',iC _ _ i _ _ (F.nd.sublist (List.take_sublist _ _)) e2 hx,rx⟩
 refine hb C' ⟨rfl,rfl,λ _=>by refine aQ ok.fl λ l h1 _=>?_;exact⟨l,by show C.A.frames.map _=_;rw[h1];rfl⟩⟩ (⟨σ.st++[AO.tup (vs.drop np)],f_ (vs.take np++[AV.ref σ.st.length]) n⟩:AS) σ1 hq (ρ++[s.heap.objs.size]) ⟨h'0,s.gens,s.drawn,s.toks+(List.zip (N.vn.take (np+1)) (xs.take np++[.ref s.heap.objs.size])).length,s.os⟩ S' _ _ PassesOwn.leaving λ ρ' H' h' tk' e p S'' x=>?_
 refine aQ ok.fl λ l h1 h2=>?_
 refine aQ S''.ok.fl λ l' g1 g2=>?_
 have:l'=callEnv fd H.objs.size f::l:=aj (g1.symm.trans (show C.A.frames.map _=_ by rw[h1];rfl))
 subst this
 have hff:=kJ S'' g2 ((callEnv fd H.objs.size f::l).filterMap (·.frame)) (λ e he a ha=>List.mem_filterMap.mpr ⟨e,he,ha⟩) x.keeps
 refine bR x.there λ oe t he hc hdd=>?_
 have hen:(hideAll H' ((callEnv fd H.objs.size f::l).filterMap (·.frame))).get? e=none:=by
  cases q:(hideAll H' ((callEnv fd H.objs.size f::l).filterMap (·.frame))).get? e with
  |none=>rfl
  |some o=>have:=of_hideAll _ q;rw[x.new]at this;cases this
 refine wpAny_leaving_firstW (a0:=t) g1 hff rfl he (λ b o hb=>x.keeps b o (of_hideAll _ hb)) hen hdd rfl rfl λ h'' hL=>?_
 refine uM hL λ k1 z1_ k3 k4=>?_;obtain⟨_,_,k2⟩:=z1_
 refine hR ρ' e h'' tk' ((ai _ _).trans p) ⟨H',_,l,t,h1,⟨k1,hen,k2,by rw[← hc];exact k3⟩,(Heap.UpToSlots.of_keeps x.keeps).trans k4,λ h'3 q1 q2=>?_⟩
 refine back ρ' _ h'3 ((ai _ _).trans p) (S''.rep.caught (λ b hb=>?_) q1 q2)
 refine aQ (List.mem_filterMap.mp hb) λ en hen' ha=>?_
 refine gc (g2 en hen') λ kk a ha' q=>?_
 have:a=b:=aj (ha'.symm.trans ha)
 subst this
 rcases q with rfl|⟨dd,h3,h4⟩
 ·exact⟨S''.Lρ,.inl S''.ok.Lb⟩
 ·exact⟨λ q=>(by rw[S''.rep.off a q]at h3;cases h3),.inr ⟨dd,h3,h4⟩⟩
end
section
variable{G:Gd}{N:Nm}
noncomputable def ZE (G:Gd)(N:Nm)(z:ZF)(e:PySem.Expr):Prop:=∀(C:Cx),C.is N->∀(σ σ':AS),z C.dn σ=some σ'->∀(ρ:List Addr) (s:Shared),SR G C ρ σ s.heap->
 ∀(E Q:Value->Shared->Prop),(∀ρ' e h' tk',ρ<+:ρ'->Fly G C ρ' σ' e h'->E (.ref e) {s with heap:=h',toks:=tk'})->wpAny (model G.prog G.w) C.A (eval e C.env) Q E s
noncomputable def oU (D0:Addr)(z:Dn->List AV->AS->Option AS)(a:EF)(l:LF):ZF:=λ D σ=>(a D σ).b none λ o σ1=>bb (bV D0 o σ1.st) ((l D σ1).b none λ vs σ2=>z D (o::vs) σ2) none
theorem xZ {D:Addr}{name:Str}{f:Addr}{z:Dn->List AV->AS->Option AS}{a:EF}{l:LF}{e x:PySem.Expr}{es:List PySem.Expr}{apos pos:Pos}(M:lI G D name f)(hg:SCz G z (.ref f))(ha:SE G N a e)(hl:SL G N l (x::es))(hx:fA x)(hp:kx (x::es))
  (he:∀env,∃pl,eval (.Call (.Attribute e name apos) (x::es) [] pos) env=(do let ov ← eval e env;standAt apos.atName;let(f,first) ← holding [ov] (getMethod ov name pl);callWith pos f first (backTo pos (starEach (x::es) env)) (backToKw pos (keywordEach [] env)))):
  ZE G N (oU D z a l) (.Call (.Attribute e name apos) (x::es) [] pos):=by
 intro C hC σ σ' h ρ s S E Q hE
 refine RV.elim h λ o σ1 h1 h=>?_
 refine ay h λ h2 h=>?_
 refine RS.elim h λ vs σ2 h3 h=>?_
 refine eE (he C.env) λ pl he=>?_
 refine methodCall_KW (pl:=pl) (ha C hC _ _ _ h1 ρ s S E _ λ ρ1 u t'1 k'1 p'1 S'1 r'1=>?_) he
 refine pi (s:=⟨t'1,s.gens,s.drawn,k'1,s.os⟩) M S'1 h2 r'1 ?_
 have hl':=hl C hC _ _ _ h3 ρ1 ⟨t'1,s.gens,s.drawn,k'1,s.os⟩ pos S'1 E
 have hp':=hp C.env pos
 rw[hx]at hl' hp' ⊢
 refine callWith_of (P:=λ h=>G.K.In h) (by show(List.any _ _||List.any [] _)=false;rw[hp'];rfl) (keeps_K M.kp) (evalArgs_plain (hl' _ λ ρ2 w t'2 k'2 p'2 S'2 r'2=>⟨S'2.kin,?_⟩))
 exact wpAny_call (hg C _ _ _ h ρ2 ⟨t'2,s.gens,s.drawn,k'2,s.os⟩ _ (.cons (r'1.mono p'2) r'2) S'2 _ λ ρ3 e t'3 k'3 p'3 x=>hE ρ3 e t'3 k'3 (p'1.trans (p'2.trans p'3)) x)
theorem vl:isSubtype (.type "ValueError") (.type "BaseException")=pure true:=by rw[isSubtype_type];kernel_rfl
theorem sG:isSubtype (.type ((Manifest.find? "ValueError").elim "type" λ y=>y.metatype)) (.type "tuple")=pure false:=by
 rw[isSubtype_type];kernel_rfl
theorem sF:isSubtype (.type "ValueError") (.type "ValueError")=pure true:=by rw[isSubtype_type];kernel_rfl
noncomputable def jD (a:SF)(z:ZF)(hb:SF):SF:=λ D σ=>bb D.hn (Op.b (z D σ) (RF.rec (motive:=λ _=>RF) .no .nx (λ _=>.no) (λ _=>.no) (λ _ _=>.no) (a D σ)) λ σ1=>hb ⟨D.cs,D.d,false,D.kt⟩ σ1) .no
theorem vr {a:SF}{z:ZF}{hb:SF}{e:PySem.Expr}{b'0:Stmt}{suite:List Stmt}{ep tp hp pos:Pos}(hN:N.fn=true)(hst:xS G N "ValueError" (.type "ValueError"))(ha:SS G N a (.Expr e ep))(hz:ZE G N z e)(hs:∀env n,swapsWith e none n env=pure false)(hh:fw G N hb (b'0::suite)):
  SS G N (jD a z hb) (.Try [.Expr e ep] [.ExceptHandler (some (.Name "ValueError" tp)) none (b'0::suite) hp] [] [] pos):=by
 intro C hC σ h ρ s S E Q hQ
 generalize hr:jD a z hb C.dn σ=r at h hQ
 refine ay hr (hz:=Ne.symm h) λ hn hr=>?_
 refine wpAny_Try_except ?_
 rcases hq:z C.dn σ with _|σ1
 ·rw[hq]at hr
  have ha':=ha C hC σ
  have hr:(RF.rec (motive:=λ _=>RF) .no .nx (λ _=>.no) (λ _=>.no) (λ _ _=>.no) (a C.dn σ):RF)=r:=hr
  generalize a C.dn σ=q at ha' hr
  cases q with
  |nx σ1=>
   cases hr
   refine wpAny_execs_cons (ha' nofun ρ s S _ _ λ ρ1 u t'1 k'1 p'1 S'1 r'1=>?_)
   cases r'1
   exact wpAny_execs_nil (wpAny_execs_nil (hQ ρ1 _ t'1 k'1 p'1 S'1 rfl))
  |_=>exact absurd hr.symm h
 ·rw[hq]at hr
  refine wpAny_execs_cons (wpAny_Expr_any (hz C hC σ σ1 hq ρ s S _ _ λ ρ1 e t'1 k'1 p'1 fl=>?_) (gw S.ok) (hs _ _))
  refine uC fl λ H base l a0 hl hfl up back=>?_
  refine eE (hC.2.2 hN) λ outer hfr=>?_
  have:l=C.env::outer:=aj (hl.symm.trans hfr)
  subst this
  have S'1:=back t'1 hfl.1 up
  refine aQ S'1.ok.fl λ l' g1 g2=>?_
  have:l'=C.env::outer:=aj (g1.symm.trans hfr)
  subst this
  refine gc (g2 C.env (.head _)) λ _ L hL _=>?_
  show wpAny (model G.prog G.w) C.A (noteFrame (.ref e) C.env) (λ _ s'2=>wpAny (model G.prog G.w) C.A (setFlight (.ref e) none) (λ _ s'3=>wpAny (model G.prog G.w) C.A (handleBy (.ref e) C.env [ExceptHandler.ExceptHandler (some (.Name "ValueError" tp)) none (b'0::suite) hp]) Q E s'3) E s'2) E ⟨t'1,s.gens,s.drawn,k'1,s.os⟩
  refine wpAny_looks_onW hfr hL hfl λ h'3 hH u3=>?_
  refine wpAny_landsW hH λ h'4 hF u4=>?_
  have S4:SR G C ρ1 σ1 h'4:=back h'4 hF.1 (up.trans (u3.trans u4))
  refine wpAny_handleBy_builtin (X:="ValueError") (T:="ValueError") (b:=true) vl sG sF ?_
  let C':Cx:={C with A:=C.A.mark (some (.ref e)),hn:=false}
  have hC':C'.is N:=⟨hC.1,hC.2.1,λ z=>hC.2.2 z⟩
  have to:∀{ρ σ h},SR G C ρ σ h->SR G C' ρ σ h:=λ S=>⟨S.rep,S.fr,S.Lρ,S.cells,S.ok.marked _⟩
  have from':∀{ρ σ h},SR G C' ρ σ h->SR G C ρ σ h:=λ S'=>⟨S'.rep,S'.fr,S'.Lρ,S'.cells,S.ok⟩
  refine hst C' hC' ρ1 ⟨h'4,s.gens,s.drawn,k'1,s.os⟩ _ _ _ _ (to S4) ⟨rfl,?_,?_⟩
  ·refine aQ hF.there λ oe hoe hce=>?_
   exact⟨oe,hoe,hce⟩
  rw[if_pos rfl]
  refine lands_againW hF λ h'5 hF5 u5=>?_
  have S5:SR G C ρ1 σ1 h'5:=back h'5 hF5.1 (up.trans (u3.trans (u4.trans u5)))
  have hr':hb C'.dn σ1=r:=hr
  refine hh C' hC' _ ?_ ρ1 ⟨h'5,s.gens,s.drawn,k'1,s.os⟩ (to S5) _ _ λ ρ' a h' tk' p S' rf=>?_
  ·rw[hr'];exact h
  ·rw[hr']at S' rf
   exact hQ ρ' a h' tk' (p'1.trans p) (from' S') rf
end
noncomputable def q0 (t:TF):EF:=λ D σ=>(t D σ).b .no λ b σ1=>.ok (.bool (!b)) σ1
section
variable{G:Gd}{N:Nm}
theorem vF {a:EF}{e:PySem.Expr}{p:Pos}(ha:SE G N a e):SE G N (q0 (tE a)) (.UnaryOp .Not e p):=by
 intro C hC σ σ' v h ρ s S E Q hQ
 refine RB.elim h λ b σ1 h1 h=>?_
 cases h
 refine RV.elim h1 λ x σ2 h2 h1=>?_
 refine Op.elim h1 λ c h3 h1=>?_
 cases h1
 refine wpAny_UnaryOp (ha C hC _ _ _ h2 ρ s S E _ λ ρ1 u t'1 k'1 p'1 S'1 r'1=>?_)
 unfold unaryOp
 refine wpAny_holding ?_
 show wpAny _ _ (do return Value.bool (!(← truthy u))) _ _ _
 refine wpAny_bind (oY (s:=⟨t'1,s.gens,s.drawn,k'1,s.os⟩) S'1 h3 r'1 E _ λ ρ2 c t'2 k'2 p'2 S'2 r'2=>?_)
 cases r'2
 exact wpAny_pure (hQ ρ2 _ t'2 k'2 (p'1.trans p'2) S'2 rfl)
theorem yi {t:TF}{a b:EF}{e x y:PySem.Expr}{p:Pos}(ht:ST G N t e)(ha:SE G N a x)(hb:SE G N b y):SE G N (uU t a b) (.IfExp e x y p):=by
 intro C hC σ σ' v h ρ s S E Q hQ
 refine RB.elim h λ c σ1 h1 h=>?_
 refine wpAny_IfExp (ht C hC _ _ _ h1 ρ s S _ _ λ ρ1 u t'1 k'1 p'1 S'1 r'1=>?_)
 cases(r'1)
 cases c with
 |true=>exact ha C hC _ _ _ h ρ1 ⟨t'1,s.gens,s.drawn,k'1,s.os⟩ S'1 E Q λ ρ2 a t'2 k'2 p'2=>hQ ρ2 a t'2 k'2 (p'1.trans p'2)
 |false=>exact hb C hC _ _ _ h ρ1 ⟨t'1,s.gens,s.drawn,k'1,s.os⟩ S'1 E Q λ ρ2 a t'2 k'2 p'2=>hQ ρ2 a t'2 k'2 (p'1.trans p'2)
theorem VRs.erase {KT:b4}{ρ:List Addr}{vs:List AV}{xs:List Value}(r:VRs KT ρ vs xs):∀i,VRs KT ρ (vs.eraseIdx i) (xs.eraseIdx i):=by
 induction r with
 |nil=>intro i;exact .nil
 |cons a r ih=>
  intro i
  cases i with
  |zero=>exact r
  |succ i=>exact .cons a (ih i)
noncomputable def gi:MF:=λ D o vs σ=>match vs with
 |[.int (.ofNat k)]=>Op.b (mU o σ.st) .no λ p=>Op.b (cy p.2 k) .no λ v=>.ok v ⟨cr σ.st p.1 (.list (p.2.eraseIdx k)),σ.fr⟩
 |_=>.no
theorem sW:SM G gi .list "pop" "list.pop":=by
 refine⟨F.plainAttrs_list,F.slot_list_pop,F.type_list_pop,?_⟩
 intro C σ σ' o vs v h ρ s x xs r rs S E Q hQ
 unfold gi at h
 split at h
 ·rename_i k
  cases rs with
  |cons rk rs=>
  cases rs
  refine aQ (Op.inv h (by nofun)) λ z1_ h1 h=>?_;obtain⟨p,l⟩:=z1_
  refine Op.elim h λ w h2 h=>?_
  rw[bw]at h
  rw[aS]at h2
  cases h
  refine cY (gj S h1 r) λ a its n ha z1_ hst ho r1 hz hl=>?_;subst z1_
  refine eE rk λ t zz=>?_
  subst zz
  refine aQ (r1.get h2) λ y hy ry=>?_
  rw[Array.getElem?_toList]at hy
  have hk:=(Array.getElem?_eq_some_iff.mp hy).1
  have fit:Builtin.List.listFitsIndex (Int.ofNat k)=true:=by
   unfold Builtin.List.listFitsIndex
   have:(Int.ofNat k)<9223372036854775808:=Int.ofNat_lt.mpr (aN hk (Nat.le_trans hz (by decide)))
   simp<;>exact ω400 hk hz
  have pl:seqIndex? (Int.ofNat k) its.size=some k:=by
   unfold seqIndex?
   have h0:¬(Int.ofNat k)<0:=Int.not_lt.mpr (Int.natCast_nonneg k)
   have h1:(Int.ofNat k)<its.size:=Int.ofNat_lt.mpr hk
   simp<;>lia
  have hs1:its.size<=sizeLine:=by rw[sizeLine_eq];exact je hz
  generalize Int.ofNat k=i at fit pl ⊢
  have M:=MeetsSeq.list_pop_at a its n i t k y fit pl hy hs1
  refine call_meets F.slot_list_pop ⟨_,ho,rfl⟩ F.entry_list_pop (F.args_list_pop_2 _ _) M ⟨ho,?_⟩
  refine hQ ρ _ _ _ (ah _) (S.upd ha (bq ..) ⟨_,IsL.update ho _,its.eraseIdxIfInBounds k,_,rfl,?_⟩) ry
  have:(its.eraseIdxIfInBounds k).toList=its.toList.eraseIdx k:=by simp
  rw[this]
  exact r1.erase k
 ·cases h
noncomputable def pz (i:Int)(l:List Int):Option Nat:=List.rec (motive:=λ _=>Option Nat) none (λ a _ ih=>bb (a == i) (some 0) (Op.b ih none λ k=>some (Nat.succ k))) l
theorem qC {i:Int}:∀{l:List Int} {j:Nat},pz i l=some j->l[j]? =some i/\∀(m:Nat) (x:Int),m<j->l[m]? =some x->(x == i)=false
 |[],_,h=>by cases h
 |a::l,j,h=>by
  have h:bb (a == i) (some 0) (Op.b (pz i l) none λ k=>some (Nat.succ k))=some j:=h
  cases q:a == i with
  |true=>
   rw[q]at h
   cases h
   exact⟨by rw[eq_of_beq q];rfl,λ m x hm=>absurd hm (bK _)⟩
  |false=>
   rw[q]at h
   refine Op.elim h λ k h1 h2=>?_
   cases h2
   refine eA (qC h1) λ g1 g2=>?_
   refine⟨g1,λ m x hm hx=>?_⟩
   cases m with
   |zero=>cases hx;exact q
   |succ m=>exact g2 m x (bu hm) hx
noncomputable def jo:MF:=λ D o vs σ=>match vs with
 |[.int i]=>Op.b (mU o σ.st) .no λ p=>Op.b (jg p.2) .no λ ns=>Op.b (pz i ns) .no λ j=>fN j λ j=>.ok (.int (.ofNat j)) σ
 |_=>.no
noncomputable def isI (i:Int)(y:Value):Bool:=match y with|.int a _=>a == i|_=>false
theorem sY:SM G jo .list "index" "list.index":=by
 refine⟨F.plainAttrs_list,F.slot_list_index,F.type_list_index,?_⟩
 intro C σ σ' o vs v h ρ s x xs r rs S E Q hQ
 unfold jo at h
 split at h
 ·rename_i i
  cases rs with
  |cons rk rs=>
  cases rs
  refine aQ (Op.inv h (by nofun)) λ z1_ h1 h=>?_;obtain⟨p,l⟩:=z1_
  refine Op.elim h λ ns h2 h=>Op.elim h λ j h3 h=>?_
  rw[qI]at h
  cases h
  have h2:l=ns.map .int:=lJ h2
  subst h2
  refine cY (gj S h1 r) λ a its n ha z1_ hst ho r1 hz hl=>?_;subst z1_
  refine eE rk λ t zz=>?_
  subst zz
  refine eA (qC h3) λ g1 g2=>?_
  have at_:∀(m:Nat) (hm:m<its.size),∃(b:Int) (u:Tok),its[m]= .int b u/\ns[m]? =some b:=λ m hm=>by
   have hm':m<ns.length:=by rw[hl,aD]at hm;exact hm
   have e:(ns.map AV.int)[m]? =some (.int ns[m]):=by rw[aB,ae hm'];rfl
   refine aQ (r1.get e) λ y hy ry=>?_
   refine eE ry λ u zu=>?_
   rw[Array.getElem?_toList,Array.getElem?_eq_getElem hm]at hy
   exact⟨_,u,(aj hy).trans zu,ae hm'⟩
  have hj:j<its.size:=by
   have:=(aa.mp g1).1
   rw[hl,aD];exact this
  refine call_meets F.slot_list_index ⟨_,ho,rfl⟩ F.entry_list_index (F.args_list_index_2 _ _) (MeetsSeq.list_index a its n (.int i t) (isI i) (λ y hy=>?_) j hj (Int.lt_of_lt_of_le (Int.ofNat_lt.mpr hj) (Int.le_trans (Int.ofNat_le.mpr hz) (by decide))) ?_ λ m hm hmj=>?_) ⟨ho,?_⟩
  ·refine eE (Array.mem_iff_getElem.mp hy) λ m zm=>?_
   refine eE zm λ hm zm=>?_
   refine ez (at_ m hm) λ b u e1 _=>?_
   rw[← zm,e1]
   exact MeetsSeq.EqGives.int b i u t
  ·refine ez (at_ j hj) λ b u e1 e2=>?_
   rw[e1]
   rw[g1]at e2
   cases e2
   exact beq_self_eq_true i
  ·refine ez (at_ m hm) λ b u e1 e2=>?_
   rw[e1]
   exact g2 m b hmj e2
  ·exact hQ ρ _ s.heap _ (ah _) S ⟨_,rfl⟩
 ·cases h
end
structure Pla (TS NI:Nat) (keys:List Int) (S:fb) (st:List AO) (r:Nat) (d l:Nat):Prop where
 a0:bO TS 0 (.ref r) st=some (.ref d)
 a1:bO TS 1 (.ref r) st=some (.ref l)
 a2:bO TS 2 (.ref r) st=some (.int S.psd)
 a3:bO TS 3 (.ref r) st=some (.int S.fin)
 ins:bV TS (.ref r) st=true
 hl:st[l]? =some (.list (S.rdy.map .int))
 hd:iD .dict (.ref d) st=true
 lk:∀(i:Nat) (k n:Int),keys[i]? =some k->S.np[i]? =some n->∃p,uQ (.ref d) (.int k) st=some (some (.ref p))/\cP NI 1 (.ref p) st=some (.int n)
section
variable{TS NI ep:Nat}{keys:List Int}{sc:List (List Int)}{st:List AO}{S:fb}{r:Nat}
theorem nw_lk {c:Nat}{kvs kv:List (AV×AV)}{π:List Nat}{enc:List AO}(w:NW st c kvs π enc kv):∀{ks ns:List Int} {ss:List (List Int)},enc=om NI c ks ns ss->kv=t9 c ks->ns.length=ks.length->ss.length=ks.length->ks.Nodup->
  ∀(i:Nat) (k n:Int),ks[i]? =some k->ns[i]? =some n->∃p,iN kvs (.int k)=some (.ref p)/\cP NI 1 (.ref p) st=some (.int n):=by
 induction w with
 |nil c=>
  intro ks ns ss e1 e2 l1 l2 hn i k n h1 h2
  cases ks with
  |nil=>cases h1
  |cons a ks=>cases e2
 |@cons c p i' s' b' c' C k' x y sc' kvs π enc kv g1 g2 g3 f1 f2 f3 w ih=>
  intro ks ns ss e1 e2 l1 l2 hn i k n h1 h2
  cases ks with
  |nil=>cases h1
  |cons a ks=>
  cases ns with
  |nil=>cases l1
  |cons b ns=>
  cases ss with
  |nil=>cases l2
  |cons s ss=>
   have e1:AO.inst C (c+1) [some x,some y,some (.ref (c+2))]::AO.attrs c' [] b'::AO.list sc'::enc=AO.inst NI (c+1) [some (.int a),some (.int b),some (.ref (c+2))]:: .attrs NI [] 0:: .list (s.map .int)::om NI (c+3) ks ns ss:=e1
   have e2:(k',AV.ref c)::kv=(AV.int a,AV.ref c)::t9 (c+3) ks:=e2
   injection e1 with q1 q2
   injection q2 with q3 q4
   injection q4 with q5 q6
   injection q1 with z1 z2 z3
   injection e2 with y1 y2
   injection y1 with y3 y4
   injection z3 with z4 z5
   injection z5 with z6 z7
   injection z4 with z4
   injection z6 with z6
   subst z1 z4 z6 y3
   rw[List.nodup_cons]at hn
   cases i with
   |zero=>
    cases(h1);cases(h2)
    refine⟨p,?_,?_⟩
    ·show bb (eM (.int k) (.int k)) _ _=_
     have:eM (.int k) (.int k)=true:=beq_self_eq_true k
     rw[this]
     rfl
    ·show dT (.ref p) st none _=_
     rw[dY g1,Nat.beq_refl]
     show Op.b (cy st i') none _=_
     rw[aS,g2]
     rfl
   |succ i=>
    have h1:ks[i]? =some k:=h1
    refine aQ (ih q6 y2 (Nat.succ.inj l1) (Nat.succ.inj l2) hn.2 i k n h1 h2) λ p hp hs=>?_
    refine⟨p,?_,hs⟩
    show bb (eM (.int a) (.int k)) _ _=_
    have:eM (.int a) (.int k)=false:=by
     show(a == k)=false
     rw[beq_eq_false_iff_ne]
     intro q
     exact hn.1 (q▸ac h1)
    rw[this]
    exact hp
theorem SW.pla {π:List Nat}(w:SW st r π (bY TS NI ep keys sc S))(nd:keys.Nodup)(l1:S.np.length=keys.length)(l2:sc.length=keys.length):∃d l,Pla TS NI keys S st r d l:=by
 generalize hE:bY TS NI ep keys sc S=E at w
 cases w with
 |fresh=>
  injection hE with q1 q2
  injection q2 with q3 q4
  injection q3 with z1 z2 z3
  injection z2 with y1 y2
  injection y2 with y3 y4
  injection y3 with y3
  cases y3
 |@ready j d l c bd ep' C a b kd rs kvs kv π enc e1 e2 e3 e4 f1 f2 f3 w nd'=>
  injection hE with q1 q2
  injection q2 with q3 q4
  injection q4 with q5 q6
  injection q6 with q7 q8
  injection q1 with x1 x2 x3
  injection q3 with z1 z2 z3
  injection z2 with y1 y2
  injection y2 with y3 y4
  injection y4 with y5 y6
  injection y6 with y7 y8
  injection y5 with y5
  injection y7 with y7
  injection q5 with v1 v2 v3
  injection q7 with u1
  subst x1 z1 y5 y7 v1 u1
  have ag:∀(i:Nat) (v:AV),cy [some (AV.ref d),some (AV.ref l),some (AV.int S.psd),some (AV.int S.fin)] i=some (some v)->bO TS i (.ref r) st=some v:=λ i v hv=>by
   show dT (.ref r) st none _=_
   rw[dY e1,Nat.beq_refl]
   show eK j st none _=_
   rw[fD e2]
   show bb (Nat.beq TS TS) _ _=_
   rw[Nat.beq_refl]
   show Op.b (cy _ i) none _=_
   rw[hv]
   rfl
  refine⟨d,l,ag 0 _ rfl,ag 1 _ rfl,ag 2 _ rfl,ag 3 _ rfl,?_,e4,(mn e3).trans rfl,λ i k n h1 h2=>?_⟩
  ·show dT (.ref r) st false _=_
   rw[dY e1,Nat.beq_refl]
   show eK j st false _=_
   rw[fD e2]
   exact Nat.beq_refl _
  ·refine aQ (nw_lk w q8.symm v2.symm l1 l2 nd i k n h1 h2) λ p hp hs=>?_
   refine⟨p,?_,hs⟩
   rw[uP e3]
   show some (iN kvs (.int k))=_
   rw[hp]
theorem mj {a:SF}{z:ZF}{D:Dn}{σ σ1:AS}(h:a D σ= .nx σ1):x0 a z D σ=z D σ1:=by unfold x0;rw[h]
noncomputable def x5 (NI:Nat):ZF:=x0 (dL (fq false (ny 4 (cc .dict mR (cV 2) (aq (cV 3) (aI))))) (ao (dS) (aC)) (aC)) (x0 (bv (gV 5) (du (cP NI 1) (cV 4))) (zIf (cK (λ a b=>a != b) (cV 5) (cC (.int (-1)))) (zIf (cK (λ a b=>decide (b<=a)) (cV 5) (cC (.int 0))) (zRs (cV 3)) zNo) zNo))
noncomputable def sh (TS NI:Nat):ZF:=x0 (dL (fq false (du (bO TS 1) (cV 0))) (ao (dS) (aC)) (aC)) (x0 (bv (gV 2) (du (bO TS 0) (cV 0))) (zFor (gV 3) (cV 1) (x5 NI)))
theorem z_run {d l i dd:Nat}{kt:Nat->Option (List AV)}{cs:List (Option Nat)}{k n:Int}{fr:List (Option AV)}(P:Pla TS NI keys S (st++[.tup [.int k]]) r d l)(hk:keys[i]? =some k)(hn:S.np[i]? =some n)(hz:k.natAbs<=1000):
  zV 1 8 (sh TS NI) ⟨cs,dd+1,true,kt⟩ [.ref r,.int k] ⟨st,fr⟩=bb (n != -1) (bb (decide (0<=n)) (some ⟨st++[.tup [.int k]],fr⟩) none) none:=by
 refine aQ (P.lk i k n hk hn) λ p hp hs=>?_
 let L:=st.length
 let st1:=st++[AO.tup [.int k]]
 let D:Dn:=⟨[],dd,true,kt⟩
 have hL:st1[L]? =some (.tup [.int k]):=ii
 have s1:dL (fq false (du (bO TS 1) (cV 0))) (ao (dS) (aC)) (aC) D ⟨st1,f_ [.ref r,.ref L] 8⟩= .nx ⟨st1,f_ [.ref r,.ref L] 8⟩:=
  (i7 (ic (r:=l) (gf (x:=.ref r) (σ1:=⟨st1,f_ [.ref r,.ref L] 8⟩) rfl P.a1))).trans rfl
 have s2:bv (gV 2) (du (bO TS 0) (cV 0)) D ⟨st1,f_ [.ref r,.ref L] 8⟩= .nx ⟨st1,[some (.ref r),some (.ref L),some (.ref d),none,none,none,none,none]⟩:=
  e_ (gf (x:=.ref r) (v:=.ref d) (σ1:=⟨st1,f_ [.ref r,.ref L] 8⟩) rfl P.a0) rfl
 have s3:dL (fq false (ny 4 (cc .dict mR (cV 2) (aq (cV 3) (aI))))) (ao (dS) (aC)) (aC) D ⟨st1,[some (.ref r),some (.ref L),some (.ref d),some (.int k),none,none,none,none]⟩= .nx ⟨st1,[some (.ref r),some (.ref L),some (.ref d),some (.int k),some (.ref p),none,none,none]⟩:=by
  refine(i7 (ic (r:=p) (σ1:=⟨st1,[some (.ref r),some (.ref L),some (.ref d),some (.int k),some (.ref p),none,none,none]⟩) ?_)).trans rfl
  have g:cc .dict mR (cV 2) (aq (cV 3) (aI)) D ⟨st1,[some (.ref r),some (.ref L),some (.ref d),some (.int k),none,none,none,none]⟩= .ok (.ref p) ⟨st1,[some (.ref r),some (.ref L),some (.ref d),some (.int k),none,none,none,none]⟩:=by
   unfold cc
   show bb (iD .dict (.ref d) st1) _ _=_
   rw[P.hd]
   show Op.b (uQ (.ref d) (.int k) st1) _ _=_
   rw[hp]
   rfl
  unfold ny
  rw[g]
  rfl
 have s4:bv (gV 5) (du (cP NI 1) (cV 4)) D ⟨st1,[some (.ref r),some (.ref L),some (.ref d),some (.int k),some (.ref p),none,none,none]⟩= .nx ⟨st1,[some (.ref r),some (.ref L),some (.ref d),some (.int k),some (.ref p),some (.int n),none,none]⟩:=
  e_ (gf (x:=.ref p) (v:=.int n) (σ1:=⟨st1,[some (.ref r),some (.ref L),some (.ref d),some (.int k),some (.ref p),none,none,none]⟩) rfl hs) rfl
 have zb:x5 NI D ⟨st1,[some (.ref r),some (.ref L),some (.ref d),some (.int k),none,none,none,none]⟩=bb (n != -1) (bb (decide (0<=n)) (some ⟨st1,[some (.ref r),some (.ref L),some (.ref d),some (.int k),some (.ref p),some (.int n),none,none]⟩) none) none:=by
  unfold x5
  rw[mj s3,mj s4]
  show bb (n != -1) (bb (decide (0<=n)) (bb (Nat.ble k.natAbs 1000) _ none) none) none=_
  rw[aF hz]
  rfl
 show Op.b (sh TS NI D ⟨st1,f_ [.ref r,.ref L] 8⟩) none _=_
 have zz:sh TS NI D ⟨st1,f_ [.ref r,.ref L] 8⟩=bb (n != -1) (bb (decide (0<=n)) (some ⟨st1,[some (.ref r),some (.ref L),some (.ref d),some (.int k),some (.ref p),some (.int n),none,none]⟩) none) none:=by
  unfold sh
  rw[mj s1,mj s2]
  refine Eq.trans ?_ zb
  show Op.b (cF kt (.ref L) st1) none _=_
  rw[gn hL]
  show Op.b (b7 (.tu L) 0 st1) none _=_
  rw[iZ hL]
  rfl
 rw[zz]
 cases n != -1 with
 |false=>rfl
 |true=>cases decide (0<=n)<;>rfl
noncomputable def zP (TS:Nat):SF:=ao (dL (fq false (du (bO TS 1) (cV 0))) (ao (dS) (aC)) (aC)) (ao (cE (wI (cT (cK (λ a b=>decide (a<b)) (du (bO TS 3) (cV 0)) (du (bO TS 2) (cV 0)))) (aP ma (aq (du (bO TS 1) (cV 0)) (aI))))) (aC))
noncomputable def nH (S:fb):Bool:=bb (decide (S.fin<S.psd)) true (!S.rdy.isEmpty)
theorem yK {d l dd:Nat}{kt:Nat->Option (List AV)}{cs:List (Option Nat)}{fr:List (Option AV)}(P:Pla TS NI keys S st r d l)(hr:S.rdy.length<=1000):
  cm 1 1 (zP TS) ⟨cs,dd+1,true,kt⟩ [.ref r] ⟨st,fr⟩= .ok (.bool (nH S)) ⟨st,fr⟩:=by
 let D:Dn:=⟨[],dd,true,kt⟩
 let σ:AS:=⟨st,[some (.ref r)]⟩
 have a:∀{i:Nat} {v:AV},bO TS i (.ref r) st=some v->du (bO TS i) (cV 0) D σ= .ok v σ:=λ h=>gf (x:=.ref r) (σ1:=σ) rfl h
 have s1:dL (fq false (du (bO TS 1) (cV 0))) (ao (dS) (aC)) (aC) D σ= .nx σ:=(i7 (ic (r:=l) (a P.a1))).trans rfl
 have k1:cT (cK (λ a b=>decide (a<b)) (du (bO TS 3) (cV 0)) (du (bO TS 2) (cV 0))) D σ= .ok (.bool (decide (S.fin<S.psd))) σ:=by
  unfold cT cK
  rw[a P.a3]
  show((du (bO TS 2) (cV 0) D σ).b RB.no _:RB).b _ _=_
  rw[a P.a2]
  rfl
 have tl:vd (.ref l) st=some (!S.rdy.isEmpty):=by
  unfold vd
  dsimp only
  rw[P.hl]
  cases q:S.rdy with
  |nil=>rfl
  |cons x xs=>
   rw[q]at hr
   dsimp only
   first
    |rfl
    |(rw[aF (cg _ (gG hr))];rfl)
 have k2:aP ma (aq (du (bO TS 1) (cV 0)) (aI)) D σ= .ok (.bool (!S.rdy.isEmpty)) σ:=by
  unfold aP aq
  rw[a P.a1]
  show Op.b (vd (.ref l) st) _ _=_
  rw[tl]
  rfl
 have k3:wI (cT (cK (λ a b=>decide (a<b)) (du (bO TS 3) (cV 0)) (du (bO TS 2) (cV 0)))) (aP ma (aq (du (bO TS 1) (cV 0)) (aI))) D σ= .ok (.bool (nH S)) σ:=by
  unfold wI nH
  rw[k1]
  show bb (decide (S.fin<S.psd)) _ _=_
  cases decide (S.fin<S.psd)with
  |true=>rfl
  |false=>exact k2
 show RF.rec (motive:=λ _=>RV) .no (λ σ'=>.ok .none ⟨σ'.st,fr⟩) (λ _=>.no) (λ _=>.no) (λ v σ'=>.ok v ⟨σ'.st,fr⟩) (zP TS D σ)=_
 have:zP TS D σ= .rt (.bool (nH S)) σ:=by
  unfold zP
  rw[bP s1]
  unfold ao cE
  rw[k3]
  rfl
 rw[this]
end
section
variable{D:Dn}{X W:Nat->Prop}{env:VE}{σ:AS}{o:pV}{TS NI ep:Nat}{keys:List Int}{sc:List (List Int)}{S:fb}{r:Nat}{π:List Nat}
theorem Rel.pla (R:Rel OS D X W env σ){s:Nat}(h:env[s]? =some (some (.obj r π (bY TS NI ep keys sc S))))(nd:keys.Nodup)(l1:S.np.length=keys.length)(l2:sc.length=keys.length):cV s D σ= .ok (.ref r) σ/\∃d l,Pla TS NI keys S σ.st r d l:=by
 refine bW (R.at' s _ h) λ v0 h1 z1_ h2=>?_;subst z1_
 exact⟨jI h1,(eG (show fY r σ.st=_ from h2)).pla nd l1 l2⟩
theorem ut {s dd:Nat}(hn:D.hn=true)(hd:D.d=dd+1)(h:env[s]? =some (some (.obj r π (bY TS NI ep keys sc S))))(nd:keys.Nodup)(l1:S.np.length=keys.length)(l2:sc.length=keys.length)(hr:S.rdy.length<=1000):
  EX OS D X W env (dZ TS (cm 1 1 (zP TS)) (cV s)) 0 (.bool (nH S)):=λ σ R=>by
 refine wx (R.pla h nd l1 l2) λ c1 d l P=>?_
 refine⟨_,σ.st,?_,ah _,rfl,rfl⟩
 unfold dZ
 rw[c1]
 show bb (bV TS (.ref r) σ.st) _ _=_
 rw[P.ins]
 show cm 1 1 (zP TS) D [.ref r] σ=_
 obtain⟨cs,d',hn',kt⟩:=D
 cases hn
 cases hd
 exact yK P hr
theorem z_at {s i j dd:Nat}{k n:Int}(hn:D.hn=true)(hd:D.d=dd+1)(h:env[s]? =some (some (.obj r π (bY TS NI ep keys sc S))))(hi:env[i]? =some (some (.val 0 (.int k))))(nd:keys.Nodup)(l1:S.np.length=keys.length)(l2:sc.length=keys.length)(hk:keys[j]? =some k)(hnp:S.np[j]? =some n)(hz:k.natAbs<=1000)(R:Rel OS D X W env σ):
  oU TS (zV 1 8 (sh TS NI)) (cV s) (aq (cV i) (aI)) D σ=bb (n != -1) (bb (decide (0<=n)) (some ⟨σ.st++[.tup [.int k]],σ.fr⟩) none) none:=by
 refine wx (R.pla h nd l1 l2) λ c1 d l P=>?_
 have R':=R.grow (ai σ.st [AO.tup [.int k]])
 refine wx (R'.pla h nd l1 l2) λ _ d' l' P'=>?_
 refine aQ (R.at' i _ hi) λ v g1 g2=>?_
 have g2:v=AV.int k/\flat v=true:=g2
 have c2:=jI g1
 rw[g2.1]at c2
 unfold oU
 rw[c1]
 show bb (bV TS (.ref r) σ.st) _ _=_
 rw[P.ins]
 show(aq (cV i) aI D σ).b _ _=_
 unfold aq
 rw[c2]
 show zV 1 8 (sh TS NI) D [.ref r,.int k] σ=_
 obtain⟨cs,d',hn',kt⟩:=D
 cases hn
 cases hd
 exact z_run P' hk hnp hz
theorem ro {s i j dd:Nat}{k:Int}{a hb:SF}{P:VE->Prop}(hn:D.hn=true)(hd:D.d=dd+1)(h:env[s]? =some (some (.obj r π (bY TS NI ep keys sc S))))(hi:env[i]? =some (some (.val 0 (.int k))))(nd:keys.Nodup)(l1:S.np.length=keys.length)(l2:sc.length=keys.length)(hk:keys[j]? =some k)(hnp:S.np[j]? =some (-1))(hz:k.natAbs<=1000)
  (ha:SX OS D X W env a (.ex P)):SX OS D X W env (jD a (oU TS (zV 1 8 (sh TS NI)) (cV s) (aq (cV i) (aI))) hb) (.ex P):=λ σ R=>by
 refine dF (ha σ R) λ e1 σ' hP e R1 k1 s1=>?_
 refine⟨e1,σ',hP,?_,R1,k1,s1⟩
 unfold jD
 rw[hn,z_at hn hd h hi nd l1 l2 hk hnp hz R,e]
 rfl
theorem rm {s i j dd:Nat}{k n:Int}{a:SF}(hn:D.hn=true)(hd:D.d=dd+1)(h:env[s]? =some (some (.obj r π (bY TS NI ep keys sc S))))(hi:env[i]? =some (some (.val 0 (.int k))))(nd:keys.Nodup)(l1:S.np.length=keys.length)(l2:sc.length=keys.length)(hk:keys[j]? =some k)(hnp:S.np[j]? =some n)(h0:0<=n)(hz:k.natAbs<=1000):
  SX OS D X W env (jD a (oU TS (zV 1 8 (sh TS NI)) (cV s) (aq (cV i) (aI))) (ao (cE (cC (.bool false))) (aC))) (.rt 0 (.bool false)):=λ σ R=>by
 refine⟨.bool false,⟨σ.st++[.tup [.int k]],σ.fr⟩,?_,⟨rfl,rfl⟩,KW.pre (ai _ _)⟩
 unfold jD
 have e1:(n != -1)=true:=by
  rw[bne_iff_ne]
  intro q
  rw[q]at h0
  exact absurd h0 (by decide)
 rw[hn,z_at hn hd h hi nd l1 l2 hk hnp hz R,e1,decide_eq_true h0]
 rfl
noncomputable def SO (D:Dn)(Y:Nat->Prop)(env:VE)(b:SF)(enc:List AO):Prop:=∀σ,Rel OS D Y (λ _=>False) env σ->∃r π σ',b D σ= .rt (.ref r) σ'/\KW (MW Y (λ _=>False) env) σ.st σ'.st/\SW σ'.st r π enc/\∀p∈π,¬Y p/\(bl Y (λ _=>False) env p∨σ.st.length<=p)
theorem mx {Y:Nat->Prop}{a b:SF}{enc:List AO}{P:VE->Prop}(ha:SX OS D Y (λ _=>False) env a (.ex P))(hb:∀e,P e->SO D Y e b enc):SO D Y env (ao a b) enc:=λ σ R=>by
 refine dF (ha σ R) λ e1 σ1 hP e R'1 k s=>?_
 refine eI (hb e1 hP σ1 R'1) λ r π σ' g1 g2 g3 g4=>?_
 refine⟨r,π,σ',?_,⟨Nat.le_trans k.1 g2.1,λ p hp hm=>?_⟩,g3,λ p hp=>⟨(g4 p hp).1,?_⟩⟩
 ·unfold ao
  rw[e]
  exact g1
 ·refine(g2.2 p (aN hp k.1) λ z=>?_).trans (k.2 p hp hm)
  rcases s p z.1 with q|q
  ·exact hm ⟨q,z.2⟩
  ·exact ej hp q
 ·rcases(g4 p hp).2 with q|q
  ·exact s p q
  ·exact .inr (Nat.le_trans k.1 q)
theorem yc {Y:Nat->Prop}{i:Nat}{b:SF}{enc:List AO}(h:env[i]? =some (some (.obj r π enc))):SO D Y env (ao (cE (cV i)) b) enc:=λ σ R=>by
 refine bW (R.at' i _ h) λ v0 h1 z1_ h2=>?_;subst z1_
 refine⟨r,π,σ,?_,KW.refl _ _,eG h2,λ p hp=>⟨(R.dis i _ p h hp).1,.inl (.inr (.inr ⟨i,_,h,hp⟩))⟩⟩
 unfold ao cE
 rw[jI h1]
 rfl
theorem nM {i np n d:Nat}{b:SF}{l:LF}{ts:List j6}{enc:List AO}(hi:i<env.length)(hw:∀k,D.cs[i]? =some (some k)->W k)(hd:D.d=d+1)(ha:EA OS D X W env l ts)(hl:ts.length<=n)(hp:ts.length=np)(h:∀Y,SO ⟨[],d,D.hn,D.kt⟩ Y (jt ts n) b enc):
  SX OS D X W env (bv (gV i) (aP (cm np n b) l)) (.ex λ q=>∃r π,q=env.set i (some (.obj r π enc))):=by
 refine sM hi hw λ σ R=>?_
 refine bR (ha σ R) λ vs st' e1 e2 hu=>?_
 have hX:∀p,bl X W env p->p<st'.length:=λ p q=>(R.grow e2).lt p q
 have hlen:=hu.length
 have R':Rel OS ⟨[],d,D.hn,D.kt⟩ (bl X W env) (λ _=>False) (jt ts n) ⟨st',f_ vs n⟩:=by
  refine⟨?_,λ p hp=>?_,λ p _ q=>q,λ i w p e hp=>?_,λ i k e=>(by cases e),λ i j k e=>(by cases e),λ i k e=>(by cases e),λ i w e=>?_⟩
  ·show(ts.map tv++_).length<=(vs.map some++_).length
   simp
   exact xi hlen
  ·rcases de hp with q|q
   ·exact hX p q
   ·cases q
  ·rw[(er e).1]at hp;cases hp
  ·refine wy (er e) λ _ n' z1_=>?_;obtain⟨V',rfl,e2⟩:=z1_
   refine aQ (hu.get e2) λ v hv u=>?_
   refine⟨v,?_,U.mono (λ p o e k=>⟨e,λ q=>(de q).elim k id⟩) u⟩
   show(match(vs.map some++List.replicate (n - vs.length) none)[i]? with|some v=>v|none=>none)=_
   rw[aL (by simpa using(aa.mp hv).1),aB,hv]at ⊢
   rfl
 refine eI (h (bl X W env) _ R') λ r π σ' g1 g2 g3 g4=>?_
 have pp:st'<+:σ'.st:=mJ g2.1 λ p hp=>g2.2 p hp λ z=>(de z.1).elim z.2 id
 refine⟨r,σ'.st,π,?_,e2.trans pp,g3,λ p hp=>?_⟩
 ·unfold aP
  rw[e1]
  show cm np n b D vs ⟨st',σ.fr⟩=_
  unfold cm
  rw[← hu.length,hp,Nat.beq_refl,hd]
  show RF.rec (motive:=λ _=>RV) .no (λ σ'=>.ok .none ⟨σ'.st,σ.fr⟩) (λ _=>.no) (λ _=>.no) (λ v σ'=>.ok v ⟨σ'.st,σ.fr⟩) (b ⟨[],d,D.hn,D.kt⟩ ⟨st',f_ vs n⟩)=_
  rw[g1]
 ·refine eA (g4 p hp) λ q1 q2=>?_
  rcases q2 with q|q
  ·exact absurd ((de q).elim id False.elim) q1
  ·exact Nat.le_trans e2.length_le q
theorem vp {C0:Addr}{d0 s w a t:Nat}{kt:Nat->Option (List AV)}{g:RG}{enc enc' st2:List AO}{xs:List AV}{ys:List AV}(hsw:s≠w)(h:env[s]? =some (some (.obj r π enc)))(hw:env[w]? =some (some (.own a 0 xs)))(hn:D.hn=true)(hd:d0+1<=D.d)(hI:bV C0 (.ref 0) enc=true)
  (hg:g d0 true kt [.ref 0] enc=some (.ref t,st2)) (ht:st2[t]? =some (.tup ys)) (hys:ys.all flat=true) (hs:fY 0 st2=some (List.range π.length,enc')) (hz:xs.length+ys.length<=1000):
  SX OS D X W env (cu (cc .list i5 (cV w) (aq (dZ C0 (fK d0 kt fJ g) (cV s)) (aI)))) (.nx ((env.set s (some (.obj r π enc'))).set w (some (.own a 0 (xs++ys:List AV))))):=λ σ R=>by
 refine jH (iY R hw) λ c1 hm vs c2 c3=>?_
 refine df (kA (l:=aI) h hn hd hI i9 (λ v hv=>by cases hv) hg hs R) λ L st' v' m1 m2 m4 m5 m6 m7=>?_
 rw[oE]at m4 m6
 have m8:=m7 t _ ht
 have hfl:∀v∈ys,flat v=true:=λ v hv=>List.all_eq_true.mp hys v hv
 rw[show kq (bk π L) (.tup ys)= .tup ys from congrArg AO.tup (fz hfl)]at m8
 subst m2
 have hw':(env.set s (some (.obj r π enc')))[w]? =some (some (.own a 0 xs)):=by rw[ak hsw];exact hw
 refine jH (iY m4 hw') λ c1' hm' vs' c2' c3'=>?_
 have u:Us st' (bl X W (env.set s (some (.obj r π enc')))) 0 (xs++ys:List AV) (vs'++ys):=c3'.append (Us.of_flat hys)
 refine(ml (q:=cu (cc .list i5 (cV w) (aq (dZ C0 (fK d0 kt fJ g) (cV s)) (aI))) D σ) m4 hw' (ah _) u ?_).step m5 m6
 unfold cu cc aq
 rw[c1]
 show(bb (iD .list (.ref a) σ.st) _ _:RV).b _ _=_
 rw[fx c2]
 show(((dZ C0 (fK d0 kt fJ g) (cV s) D σ).b _ _:RS).b _ _:RV).b _ _=_
 rw[mK,m1]
 have hl:=c3'.length
 have hl:xs.length=vs'.length:=hl
 show(Op.b (mU (.ref a) st') _ _:RV).b _ _=_
 rw[gk c2' (by rw[← hl];exact Nat.le_trans (aZ _ _) hz)]
 show(Op.b (iS (.ref (bk π L t)) st') _ _:RV).b _ _=_
 have h5:iS (.ref (bk π L t)) st'=some ys:=by
  show Op.b (cy st' (bk π L t)) none _=_
  rw[aS,m8]
  exact congrArg (λ b=>bb b (some ys) none) (aF (by unfold big;have:=Nat.le_trans (Nat.le_add_left ys.length xs.length) hz;exact gG this))
 rw[h5]
 show(bb (Nat.ble (vs'.length+ys.length) 1000) _ _:RV).b _ _=_
 rw[aF (by rw[← hl];exact hz)]
 show RF.nx ⟨cr st' a _,_⟩=_
 rw[bw]
theorem rB {ie:EF}{oi w a b k:Nat}{xs ys:List AV}{v:AV}(how:oi≠w)(ho:env[oi]? =some (some (.own a 0 xs)))(hw:env[w]? =some (some (.own b 0 ys)))(hk:ys[k]? =some v)(he:EX OS D X W env ie 0 (.int k))(hz:xs.length<=1000)(hz2:ys.length<=1000):
  SX OS D X W env (cu (cc .list cD (cV oi) (aq (cc .list gi (cV w) (aq ie (aI))) (aI)))) (.nx ((env.set w (some (.own b 0 (ys.eraseIdx k:List AV)))).set oi (some (.own a 0 (xs++[v]:List AV))))):=λ σ R=>by
 refine jH (iY R ho) λ c1 hm vs c2 c3=>?_
 refine jH (iY R hw) λ d1 dm ws d2 d3=>?_
 refine bz (he σ R) λ iv st' h1 h2 zi _=>?_;subst zi
 have R':=R.grow h2
 have e3:=(Us.flat (d3.pre h2)).1
 have f3:=(Us.flat (d3.pre h2)).2
 have e4:=(Us.flat (c3.pre h2)).1
 have f4:=(Us.flat (c3.pre h2)).2
 subst e3 e4
 have fv:flat v=true:=List.all_eq_true.mp f3 v (ac hk)
 have fe:(ws.eraseIdx k).all flat=true:=List.all_eq_true.mpr λ x hx=>List.all_eq_true.mp f3 x (List.mem_of_mem_eraseIdx hx)
 have hab:a≠b:=λ q=>how ((R.dis oi _ a ho (by simp[pl])).2.2 w _ hw (by rw[q];simp[pl]))
 have A:=ml (q:=.nx ⟨st'.set b (.list (ws.eraseIdx k)),σ.fr⟩) (n:=0) (ys:=(ws.eraseIdx k:List AV)) R hw h2 (Us.of_flat fe) rfl
 refine em A λ σ1 q1 R'1 k1 s1=>?_
 cases q1
 have ho':(env.set w (some (.own b 0 (ws.eraseIdx k:List AV))))[oi]? =some (some (.own a 0 vs)):=by rw[ak how.symm];exact ho
 have B:=ml (σ:=⟨st'.set b (.list (ws.eraseIdx k)),σ.fr⟩) (q:=.nx ⟨(st'.set b (.list (ws.eraseIdx k))).set a (.list (vs++[v])),σ.fr⟩) (n:=0) (ys:=(vs++[v]:List AV)) R'1 ho' (ah _) (Us.of_flat (by rw[List.all_append,f4];show(flat v && true)=true;rw[fv];rfl)) rfl
 have C:=B.step k1 s1
 have unf:cu (cc .list cD (cV oi) (aq (cc .list gi (cV w) (aq ie (aI))) (aI))) D σ= .nx ⟨(st'.set b (.list (ws.eraseIdx k))).set a (.list (vs++[v])),σ.fr⟩:=by
  have inn:cc .list gi (cV w) (aq ie (aI)) D σ= .ok v ⟨st'.set b (.list (ws.eraseIdx k)),σ.fr⟩:=by
   unfold cc aq
   rw[d1]
   show bb (iD .list (.ref b) σ.st) _ _=_
   rw[fx d2]
   show(((ie D σ).b _ _:RS).b _ _:RV)=_
   rw[h1]
   show Op.b (mU (.ref b) st') _ _=_
   rw[gk (bZ h2 d2) hz2]
   show Op.b (cy ws k) _ _=_
   rw[aS,hk]
   show RV.ok v ⟨cr st' b _,_⟩=_
   rw[bw]
  unfold cu
  have out:cc .list cD (cV oi) (aq (cc .list gi (cV w) (aq ie (aI))) (aI)) D σ= .ok .none ⟨(st'.set b (.list (ws.eraseIdx k))).set a (.list (vs++[v])),σ.fr⟩:=by
   show(cV oi D σ).b RV.no _=_
   rw[c1]
   show bb (iD .list (.ref a) σ.st) _ _=_
   rw[fx c2]
   show(((cc .list gi (cV w) (aq ie (aI)) D σ).b _ _:RS).b _ _:RV)=_
   rw[inn]
   show Op.b (mU (.ref a) (st'.set b (.list (ws.eraseIdx k)))) _ _=_
   rw[gk (by rw[ak hab.symm];exact bZ h2 c2) hz]
   show RV.ok AV.none ⟨cr _ a _,_⟩=_
   rw[bw]
  rw[out]
  rfl
 rw[unf]
 exact C
end
section
variable{O:ei}{D:Dn}{X W:Nat->Prop}{env:VE}{σ:AS}
theorem yX {t:TF}{b:Bool}(h:ET O D X W env t b):EX O D X W env (q0 t) 0 (.bool (!b)):=λ σ R=>by
 refine aQ (h σ R) λ st' h1 h2=>?_
 refine⟨_,st',?_,h2,rfl,rfl⟩
 unfold q0
 rw[h1]
 rfl
theorem yY {t:TF}{a b:EF}{c:Bool}{n:Nat}{V:Vl n}(ht:ET O D X W env t c)(h:EX O D X W env (bb c a b) n V):EX O D X W env (uU t a b) n V:=λ σ R=>by
 refine aQ (ht σ R) λ st'1 h1 h2=>?_
 refine bR (h _ (R.grow h2)) λ v st'2 h3 h4 h5=>?_
 refine⟨v,st'2,?_,h2.trans h4,h5⟩
 unfold uU
 rw[h1]
 cases c<;>exact h3
noncomputable def mN (tb:Tb)(x:AV)(n:Int):Option Int:=x.ki none (λ i=>tb.md i n) λ m=>fL .Mod m n
theorem qL {tb:Tb}{a b:EF}{x:AV}{n c:Int}(ha:EX O D X W env a 0 x)(hb:EX O D X W env b 0 (.int n))(h:mN tb x n=some c):EX O D X W env (hO tb a b) 0 (.int c):=λ σ R=>by
 refine bz (ha σ R) λ v st'1 h1 h2 z1_ _=>?_;subst z1_
 refine bz (hb _ (R.grow h2)) λ w st'2 h3 h4 z1_ _=>?_;subst z1_
 refine⟨_,st'2,?_,h2.trans h4,rfl,rfl⟩
 unfold hO
 rw[h1]
 show(b D ⟨st'1,σ.fr⟩).b _ _=_
 rw[h3]
 cases v with
 |kt i=>
  show Op.b (tb.md i n) _ _=_
  rw[show tb.md i n=some c from h]
  rfl
 |int m=>
  show Op.b (fL .Mod m n) _ _=_
  rw[show fL .Mod m n=some c from h]
  exact ek c λ c=>RV.ok (AV.int c) ⟨st'2,σ.fr⟩
 |_=>cases h
noncomputable def gtV (tb:Tb)(x:AV)(n:Int):Option Bool:=x.ki none (λ i=>tb.gt i n) λ m=>some (decide (n<m))
theorem y0 {tb:Tb}{a b:EF}{x:AV}{n:Int}{c:Bool}(ha:EX O D X W env a 0 x)(hb:EX O D X W env b 0 (.int n))(h:gtV tb x n=some c):ET O D X W env (uV tb a b) c:=λ σ R=>by
 refine bz (ha σ R) λ v st'1 h1 h2 z1_ _=>?_;subst z1_
 refine bz (hb _ (R.grow h2)) λ w st'2 h3 h4 z1_ _=>?_;subst z1_
 refine⟨st'2,?_,h2.trans h4⟩
 unfold uV
 rw[h1]
 show(b D ⟨st'1,σ.fr⟩).b _ _=_
 rw[h3]
 cases v with
 |kt i=>
  show Op.b (tb.gt i n) _ _=_
  rw[show tb.gt i n=some c from h]
  rfl
 |int m=>cases h;rfl
 |_=>cases h
theorem wh {a b:EF}{l:List Nat}{i:Int}{k c:Nat}(ha:EX O D X W env a 0 (.str l))(hb:EX O D X W env b 0 (.int i))(hz:l.length<=1000)(hp:bE i l.length=some k)(hk:l[k]? =some c):EX O D X W env (bN a b) 0 (.str [c]):=λ σ R=>by
 refine bz (ha σ R) λ v st'1 h1 h2 z1_ _=>?_;subst z1_
 refine bz (hb _ (R.grow h2)) λ w st'2 h3 h4 z1_ _=>?_;subst z1_
 refine⟨_,st'2,?_,h2.trans h4,rfl,rfl⟩
 unfold bN
 rw[h1]
 show(b D ⟨st'1,σ.fr⟩).b _ _=_
 rw[h3]
 show Op.b (rQ (.str l) i st'2) _ _=_
 have:rQ (.str l) i st'2=some (.str [c]):=by
  show(match Nat.ble l.length big with|true=>(bE i l.length).bind λ k=>(l[k]?).bind λ c=>some (AV.str [c])|false=>none)=_
  rw[aF (by unfold big;exact gG hz)]
  show(bE i l.length).bind _=_
  rw[hp]
  show(l[k]?).bind _=_
  rw[hk]
  rfl
 rw[this]
 rfl
theorem oO:∀ws:List Nat,r_ (ws.map λ c=>AV.str [c])=some ws
 |[]=>rfl
 |w::ws=>by
  show Op.b (r_ (ws.map λ c=>AV.str [c])) none (λ r=>some ([w]++r))=_
  rw[oO ws]
  rfl
theorem wi {a:EF}{ws:List Nat}(ha:EL O D X W env a 0 (ws.map λ c=>AV.str [c]))(hz:ws.length<=1000):EX O D X W env (cc .str jF (cC (.str [])) (aq a (aI))) 0 (.str ws):=λ σ R=>by
 refine b5 (ha σ R) λ r vs st'1 h1 h2 hW h3 hu=>?_
 refine eA (Us.flat hu) λ z1_ _=>?_;subst z1_
 refine⟨_,st'1,?_,h2,rfl,rfl⟩
 show(((a D σ).b _ _:RS).b _ _:RV)=_
 rw[h1]
 show Op.b (mU (.ref r) st'1) _ _=_
 rw[gk h3 (cg _ hz)]
 show bb (Nat.ble (ws.map λ c=>AV.str [c]).length 1000) _ _=_
 rw[aF (cg _ hz)]
 show Op.b (r_ (ws.map λ c=>AV.str [c])) _ _=_
 rw[oO]
 rfl
theorem ur {a b:EF}{ns:List Int}{i:Int}{j:Nat}(ha:EL O D X W env a 0 (ns.map .int))(hb:EX O D X W env b 0 (.int i))(hz:ns.length<=1000)(h:pz i ns=some j):EX O D X W env (cc .list jo a (aq b (aI))) 0 (.int j):=λ σ R=>by
 refine b5 (ha σ R) λ r vs st'1 h1 h2 hW h3 hu=>?_
 refine eA (Us.flat hu) λ z1_ _=>?_;subst z1_
 refine bz (hb _ (R.grow h2)) λ w st'2 h4 h5 z1_ _=>?_;subst z1_
 refine⟨_,st'2,?_,h2.trans h5,rfl,rfl⟩
 unfold cc aq
 rw[h1]
 show bb (iD .list (.ref r) st'1) _ _=_
 rw[fx h3]
 show(((b D ⟨st'1,σ.fr⟩).b _ _:RS).b _ _:RV)=_
 rw[h4]
 show Op.b (mU (.ref r) st'2) _ _=_
 rw[gk (bZ h5 h3) (cg _ hz)]
 show Op.b (jg (ns.map .int)) _ _=_
 rw[j7]
 show Op.b (pz i ns) _ _=_
 rw[h]
 exact qI j λ j=>RV.ok (AV.int (.ofNat j)) ⟨st'2,σ.fr⟩
end
noncomputable def qz:List (List AV):=[[.int 40960,.str [108]],
 [.int 49152,.str [115]],
 [.int 32768,.str [45]],
 [.int 24576,.str [98]],
 [.int 16384,.str [100]],
 [.int 8192,.str [99]],
 [.int 4096,.str [112]],
 [.kt 149,.kt 150,.kt 151,.kt 152,.kt 153,.kt 154,.kt 155],
 [.int 256,.str [114]],
 [.kt 157],
 [.int 128,.str [119]],
 [.kt 159],
 [.int 2112,.str [115]],
 [.int 2048,.str [83]],
 [.int 64,.str [120]],
 [.kt 161,.kt 162,.kt 163],
 [.int 32,.str [114]],
 [.kt 165],
 [.int 16,.str [119]],
 [.kt 167],
 [.int 1032,.str [115]],
 [.int 1024,.str [83]],
 [.int 8,.str [120]],
 [.kt 169,.kt 170,.kt 171],
 [.int 4,.str [114]],
 [.kt 173],
 [.int 2,.str [119]],
 [.kt 175],
 [.int 513,.str [116]],
 [.int 512,.str [84]],
 [.int 1,.str [120]],
 [.kt 177,.kt 178,.kt 179],
 [.kt 156,.kt 158,.kt 160,.kt 164,.kt 166,.kt 168,.kt 172,.kt 174,.kt 176,.kt 180]]
noncomputable def c_:Nat->Option (List AV):=λ i=>cy qz (Nat.sub i 149)
structure Hd03 (G:Gd) (ps:PySem.Params):Prop where
 K:G.K=K03 ps
 ns:G.KT.ns=λ D=>if D=137 then[Str.ofString "_node2info",Str.ofString "_ready_nodes",Str.ofString "_npassedout",Str.ofString "_nfinished"]else[]
 table:VR G.KT [] (.kt 181) (.ref 181)
 kt:∀i xs,c_ i=some xs->∃a,G.KT.tab i=some (a,xs)
section
variable{G:Gd}{ps:PySem.Params}
theorem Hd03.ownA0 (H:Hd03 G ps):se G 137 0 (Str.ofString "_node2info"):=⟨by rw[H.ns];rfl,by rw[H.K];rfl,by rw[H.K];rfl,by rw[H.K];exact⟨_,rfl,rfl⟩⟩
theorem Hd03.ownS0 (H:Hd03 G ps):sd G 137 0 (Str.ofString "_node2info"):=⟨by rw[H.ns];rfl,by rw[H.ns];decide,by rw[H.K];rfl,by rw[H.K];rfl,by rw[H.K];rfl,by rw[H.K];rfl⟩
theorem Hd03.ownA1 (H:Hd03 G ps):se G 137 1 (Str.ofString "_ready_nodes"):=⟨by rw[H.ns];rfl,by rw[H.K];rfl,by rw[H.K];rfl,by rw[H.K];exact⟨_,rfl,rfl⟩⟩
theorem Hd03.ownS1 (H:Hd03 G ps):sd G 137 1 (Str.ofString "_ready_nodes"):=⟨by rw[H.ns];rfl,by rw[H.ns];decide,by rw[H.K];rfl,by rw[H.K];rfl,by rw[H.K];rfl,by rw[H.K];rfl⟩
theorem Hd03.ownA2 (H:Hd03 G ps):se G 137 2 (Str.ofString "_npassedout"):=⟨by rw[H.ns];rfl,by rw[H.K];rfl,by rw[H.K];rfl,by rw[H.K];exact⟨_,rfl,rfl⟩⟩
theorem Hd03.ownS2 (H:Hd03 G ps):sd G 137 2 (Str.ofString "_npassedout"):=⟨by rw[H.ns];rfl,by rw[H.ns];decide,by rw[H.K];rfl,by rw[H.K];rfl,by rw[H.K];rfl,by rw[H.K];rfl⟩
theorem Hd03.ownA3 (H:Hd03 G ps):se G 137 3 (Str.ofString "_nfinished"):=⟨by rw[H.ns];rfl,by rw[H.K];rfl,by rw[H.K];rfl,by rw[H.K];exact⟨_,rfl,rfl⟩⟩
theorem Hd03.ownS3 (H:Hd03 G ps):sd G 137 3 (Str.ofString "_nfinished"):=⟨by rw[H.ns];rfl,by rw[H.ns];decide,by rw[H.K];rfl,by rw[H.K];rfl,by rw[H.K];rfl,by rw[H.K];rfl⟩
theorem Hd03.slot0 (H:Hd03 G ps):ll G 40 0 (Str.ofString "node"):=⟨by rw[H.K];exact⟨_,rfl,rfl,rfl,rfl,rfl,rfl,rfl,rfl,rfl,rfl,by decide⟩⟩
theorem Hd03.slot1 (H:Hd03 G ps):ll G 40 1 (Str.ofString "npredecessors"):=⟨by rw[H.K];exact⟨_,rfl,rfl,rfl,rfl,rfl,rfl,rfl,rfl,rfl,rfl,by decide⟩⟩
theorem Hd03.slot2 (H:Hd03 G ps):ll G 40 2 (Str.ofString "successors"):=⟨by rw[H.K];exact⟨_,rfl,rfl,rfl,rfl,rfl,rfl,rfl,rfl,rfl,rfl,by decide⟩⟩
theorem Hd03.m_get_nodeinfo (H:Hd03 G ps):lI G 137 (Str.ofString "_get_nodeinfo") 80:=⟨by rw[H.K];rfl,by rw[H.K];rfl,by rw[H.K];rfl,by rw[H.K];rfl,by rw[H.ns];decide⟩
theorem Hd03.b_add (H:Hd03 G ps):zI G 137 (Str.ofString "add") 87:=⟨by rw[H.K];rfl,by rw[H.K];rfl,by rw[H.K];rfl,by rw[H.K];rfl,by rw[H.K];rfl,by rw[H.K];rfl,by rw[H.K];rfl,by decide,by rw[H.ns];decide⟩
theorem Hd03.m_prepare (H:Hd03 G ps):lI G 137 (Str.ofString "prepare") 92:=⟨by rw[H.K];rfl,by rw[H.K];rfl,by rw[H.K];rfl,by rw[H.K];rfl,by rw[H.ns];decide⟩
theorem Hd03.m_get_ready (H:Hd03 G ps):lI G 137 (Str.ofString "get_ready") 99:=⟨by rw[H.K];rfl,by rw[H.K];rfl,by rw[H.K];rfl,by rw[H.K];rfl,by rw[H.ns];decide⟩
theorem Hd03.m_is_active (H:Hd03 G ps):lI G 137 (Str.ofString "is_active") 106:=⟨by rw[H.K];rfl,by rw[H.K];rfl,by rw[H.K];rfl,by rw[H.K];rfl,by rw[H.ns];decide⟩
theorem Hd03.m_done (H:Hd03 G ps):lI G 137 (Str.ofString "done") 120:=⟨by rw[H.K];rfl,by rw[H.K];rfl,by rw[H.K];rfl,by rw[H.K];rfl,by rw[H.ns];decide⟩
theorem Hd03.m_find_cycle (H:Hd03 G ps):lI G 137 (Str.ofString "_find_cycle") 127:=⟨by rw[H.K];rfl,by rw[H.K];rfl,by rw[H.K];rfl,by rw[H.K];rfl,by rw[H.ns];decide⟩
end
noncomputable def gC:Nm:=⟨["self","node"],[],true⟩
noncomputable def fc:SF:=ao (bv (lZ (dW 40 0) (cV 0)) (cV 1)) (ao (bv (lZ (dW 40 1) (cV 0)) (cC (.int 0))) (ao (bv (lZ (dW 40 2) (cV 0)) (dj (aI))) (aC)))
theorem jy {G:Gd}{ps:PySem.Params}(H:Hd03 G ps):∃fd body,eQ G gC 2 36 fd body/\fw G gC fc body:=by
 have hK:=H.K
 refine⟨_,_,⟨⟨⟨_,by rw[hK];rfl,rfl⟩,by rw[hK];rfl,rfl,rfl,rfl,by decide,by decide,by decide,by decide,by decide,rfl,rfl,rfl⟩,(l2 λ _ _=>rfl)⟩,?_⟩
 exact(am (a_ (aV (λ _ _=>rfl) (iy (gq (H.slot0)) (af rfl))) (af rfl) (λ _ _=>⟨rfl,rfl⟩)) (am (a_ (aV (λ _ _=>rfl) (iy (gq (H.slot1)) (af rfl))) ba (λ _ _=>⟨rfl,rfl⟩)) (am (a_ (aV (λ _ _=>rfl) (iy (gq (H.slot2)) (af rfl))) (cw aJ) (λ _ _=>⟨rfl,rfl⟩)) ax)))
theorem mE {G:Gd}{ps:PySem.Params}(H:Hd03 G ps):SC G (oH 40 0 3 2 2 [] fc) (.ref 40):=by
 obtain⟨_,_,F,hb⟩:=jy H
 have hK:=H.K
 exact th ⟨by rw[hK];rfl,by rw[hK];rfl,by rw[hK];rfl⟩ (by rw[H.ns];decide) F.toDefB hb .nil rfl (λ s xs X h=>.of_eq (by rw[List.append_nil];exact F.bind xs h))
noncomputable def cI:Nm:=⟨["self","graph","node","predecessors"],[],true⟩
noncomputable def bf:SF:=ao (bv (lZ (hY 137 0) (cV 0)) (oD false)) (ao (bv (lZ (hY 137 1) (cV 0)) (cC .none)) (ao (bv (lZ (hY 137 2) (cV 0)) (cC (.int 0))) (ao (bv (lZ (hY 137 3) (cV 0)) (cC (.int 0))) (ao (dL (fq true (cV 1)) (ao (dS) (aC)) (aC)) (aC)))))
theorem fM {G:Gd}{ps:PySem.Params}(H:Hd03 G ps):∃fd body,DefB G cI 2 73 fd body/\fw G cI bf body/\∀(s:Shared) (xs:List Value),G.K.In s.heap->xs.length=1->BindsTo s fd ⟨xs,[]⟩ (List.zip (cI.vn.take 2) (xs++[.none])):=by
 have hK:=H.K
 refine⟨_,_,⟨⟨_,by rw[hK];rfl,rfl⟩,by rw[hK];rfl,rfl,rfl,rfl,by decide,by decide,by decide,by decide,by decide,rfl,rfl,rfl⟩,?_,?_⟩
 ·exact(am (a_ (aV (λ _ _=>rfl) (iy (iP (H.ownS0)) (af rfl))) qm (λ _ _=>⟨rfl,rfl⟩)) (am (a_ (aV (λ _ _=>rfl) (iy (iP (H.ownS1)) (af rfl))) cM (λ _ _=>⟨rfl,rfl⟩)) (am (a_ (aV (λ _ _=>rfl) (iy (iP (H.ownS2)) (af rfl))) ba (λ _ _=>⟨rfl,rfl⟩)) (am (a_ (aV (λ _ _=>rfl) (iy (iP (H.ownS3)) (af rfl))) ba (λ _ _=>⟨rfl,rfl⟩)) (am (b6 (bj rfl (af rfl) cM mY) (am d6 ax) ax) ax)))))
 ·intro s xs X
  revert xs
  exact l1 λ a=>.of_defaults (T:=66) rfl (X 66 _ (by rw[hK];rfl)) rfl rfl rfl
theorem gE {G:Gd}{ps:PySem.Params}(H:Hd03 G ps):SC G (oH 137 4 0 1 4 [.none] bf) (.ref 137):=by
 obtain⟨_,_,F,hb,hbi⟩:=fM H
 have hK:=H.K
 exact th ⟨by rw[hK];rfl,by rw[hK];rfl,by rw[hK];rfl⟩ (by rw[H.ns];decide) F hb (.cons rfl .nil) rfl hbi
noncomputable def cJ:Nm:=⟨["self","node","result"],["_NodeInfo"],true⟩
noncomputable def bF:SF:=ao (dL (fq false (ny 2 (cc .dict mR (du (bO 137 0) (cV 0)) (aq (cV 1) (aI))))) (ao (bv (g2 (ul (du (bO 137 0) (cV 0)) (cV 1)) (gV 2)) (aP (oH 40 0 3 2 2 [] fc) (aq (cV 1) (aI)))) (aC)) (aC)) (ao (cE (cV 2)) (aC))
theorem ed {G:Gd}{ps:PySem.Params}(H:Hd03 G ps):∃fd body,eQ G cJ 2 80 fd body/\fw G cJ bF body:=by
 have hK:=H.K
 refine⟨_,_,⟨⟨⟨_,by rw[hK];rfl,rfl⟩,by rw[hK];rfl,rfl,rfl,rfl,by decide,by decide,by decide,by decide,by decide,rfl,rfl,rfl⟩,(l2 λ _ _=>rfl)⟩,?_⟩
 exact(am (b6 (bj rfl (o7 rfl (dh o5 (cQ (cH (H.ownA0)) (af rfl) (λ _=>rfl)) (aw (λ _ _=>rfl) (af rfl) aJ) (λ _ _=>rfl) (λ _ _=>rfl) (λ _=>rfl) rfl (λ _=>rfl))) cM iI) (am (a_ (qf (λ _ _=>rfl) (λ _ _=>rfl) (qg (cQ (cH (H.ownA0)) (af rfl) (λ _=>rfl)) (af rfl)) (aW rfl)) (aX (mE H) (c9 (ac (i:=0) rfl) (by rw[hK];rfl)) (jP (by rw[hK];rfl)) (aw (λ _ _=>rfl) (af rfl) aJ) (λ _ _=>rfl) (λ _ _=>rfl)) (λ _ _=>⟨rfl,rfl⟩)) ax) ax) (am (b_ (af rfl)) ax))
theorem cB {G:Gd}{ps:PySem.Params}(H:Hd03 G ps):SC G (cm 2 3 bF) (.ref 80):=by
 obtain⟨_,_,F,hb⟩:=ed H
 exact gO F hb
noncomputable def d4:Nm:=⟨["self","node","predecessors","nodeinfo","pred","pred_info"],["ValueError","len"],true⟩
noncomputable def bT:SF:=ao (dL (fq true (du (bO 137 1) (cV 0))) (ao (dS) (aC)) (aC)) (ao (bv (gV 3) (ir 137 (cm 2 3 bF) (cV 0) (aq (cV 1) (aI)))) (ao (fP (cP 40 1) (dW 40 1) dN (cV 3) (aP dJ (aq (cV 2) (aI)))) (ao (dM 64 (gV 4) (cV 2) (ao (bv (gV 5) (ir 137 (cm 2 3 bF) (cV 0) (aq (cV 4) (aI)))) (ao (cu (cc .list cD (du (cP 40 2) (cV 5)) (aq (cV 1) (aI)))) (aC))) (aC)) (aC))))
theorem f7 {G:Gd}{ps:PySem.Params}(H:Hd03 G ps):∃fd body,sg G d4 2 87 fd body/\fw G d4 bT body:=by
 have hK:=H.K
 refine⟨_,_,⟨⟨_,by rw[hK];rfl,rfl⟩,by rw[hK];rfl,rfl,rfl,rfl,(v2 (λ _ _=>rfl) λ _ _ _ _=>rfl),by decide,by decide,by decide,by decide,by decide,rfl,rfl,rfl⟩,?_⟩
 exact(am (b6 (bj rfl (cQ (cH (H.ownA1)) (af rfl) (λ _=>rfl)) cM mY) (am d6 ax) ax) (am (a_ (aV (λ _ _=>rfl) (aW rfl)) (mB H.m_get_nodeinfo (cB H) (af rfl) (aw (λ _ _=>rfl) (af rfl) aJ) (λ _ _=>rfl) (λ _ _=>rfl) (λ _=>⟨_,rfl⟩)) (λ _ _=>⟨rfl,rfl⟩)) (am (jT (eL (H.slot1)) (gq (H.slot1)) mW (af rfl) (aX di (be (ac (i:=1) rfl) (by rw[hK];rfl) rfl (by decide)) bm (aw (λ _ _=>rfl) (af rfl) aJ) (λ _ _=>rfl) (λ _ _=>rfl))) (am (eU (aW rfl) (af rfl) (am (a_ (aV (λ _ _=>rfl) (aW rfl)) (mB H.m_get_nodeinfo (cB H) (af rfl) (aw (λ _ _=>rfl) (af rfl) aJ) (λ _ _=>rfl) (λ _ _=>rfl) (λ _=>⟨_,rfl⟩)) (λ _ _=>⟨rfl,rfl⟩)) (am (dg (dh dC (cQ (eL (H.slot2)) (af rfl) (λ _=>rfl)) (aw (λ _ _=>rfl) (af rfl) aJ) (λ _ _=>rfl) (λ _ _=>rfl) (λ _=>rfl) rfl (λ _=>rfl)) (λ _ _=>rfl)) ax)) ax (λ _ _=>rfl) (λ _ _=>rfl)) ax))))
theorem f0 {G:Gd}{ps:PySem.Params}(H:Hd03 G ps):oS G (tz 2 6 bT) 87:=by
 obtain⟨_,_,F,hb⟩:=f7 H
 exact dr_V F hb
noncomputable def cU:Nm:=⟨["self","node","stack","itstack","seen","node2stacki","n2i"],["set","iter","len","StopIteration"],true⟩
noncomputable def cf:SF:=ao (bv (gV 6) (du (bO 137 0) (cV 0))) (ao (bv (gV 2) (dj (aI))) (ao (bv (gV 3) (dj (aI))) (ao (bv (gV 4) (jv (bSet false))) (ao (bv (gV 5) (oD false)) (ao (dM 64 (gV 1) (cV 6) (ao (dL (zg false (cV 1) (cV 4)) (ao (sCnt) (aC)) (aC)) (ao (rK 64 (tE (cC (.bool true))) (ao (dL (zg false (cV 1) (cV 4)) (ao (dL (cInD false (cV 1) (cV 5)) (ao (cE (jR (f6 (cV 2) (gd (cV 5) (cV 1)) (cC .none)) (dj (aq (cV 1) (aI))))) (aC)) (aC)) (aC)) (ao (cu (cc .set mAdd (cV 4) (aq (cV 1) (aI)))) (ao (cu (cc .list cD (cV 3) (aq (cNxt (aP xR (aq (du (cP 40 2) (gd (cV 6) (cV 1))) (aI)))) (aI)))) (ao (bv (ul (cV 5) (cV 1)) (aP dJ (aq (cV 2) (aI)))) (ao (cu (cc .list cD (cV 2) (aq (cV 1) (aI)))) (aC)))))) (ao (rK 64 (tE (cV 2)) (ao (tm 1 (bN (cV 3) (nz (cC (.int 1)))) (ao (yl (cV 5) (iB .list yw (cV 2))) (ao (cu (iB .list yw (cV 3))) (aC)))) (aC)) (ao (vL) (aC))) (aC))) (aC)) (aC))) (aC)) (ao (cE (cC .none)) (aC)))))))
theorem eB {G:Gd}{ps:PySem.Params}(H:Hd03 G ps):∃fd body,eQ G cU 1 127 fd body/\fw G cU cf body:=by
 have hK:=H.K
 refine⟨_,_,⟨⟨⟨_,by rw[hK];rfl,rfl⟩,by rw[hK];rfl,rfl,rfl,rfl,by decide,by decide,by decide,by decide,by decide,rfl,rfl,rfl⟩,(l1 λ _=>rfl)⟩,?_⟩
 exact(am (a_ (aV (λ _ _=>rfl) (aW rfl)) (cQ (cH (H.ownA0)) (af rfl) (λ _=>rfl)) (λ _ _=>⟨rfl,rfl⟩)) (am (a_ (aV (λ _ _=>rfl) (aW rfl)) (cw aJ) (λ _ _=>⟨rfl,rfl⟩)) (am (a_ (aV (λ _ _=>rfl) (aW rfl)) (cw aJ) (λ _ _=>⟨rfl,rfl⟩)) (am (a_ (aV (λ _ _=>rfl) (aW rfl)) (nT yj (be (ac (i:=0) rfl) (by rw[hK];rfl) rfl (by decide)) cN) (λ _ _=>⟨rfl,rfl⟩)) (am (a_ (aV (λ _ _=>rfl) (aW rfl)) qm (λ _ _=>⟨rfl,rfl⟩)) (am (eU (aW rfl) (af rfl) (am (b6 (bj rfl (af rfl) (af rfl) ug) (am yb ax) ax) (am (mv (jj mD (λ _ _=>rfl)) (am (b6 (bj rfl (af rfl) (af rfl) ug) (am (b6 (bj rfl (af rfl) (af rfl) yM) (am (b_ (kg (eu (af rfl) (cL (jV (af rfl) (af rfl))) dl) (cw (aw (λ _ _=>rfl) (af rfl) aJ)))) ax) ax) ax) (am (dg (dh yd (af rfl) (aw (λ _ _=>rfl) (af rfl) aJ) (λ _ _=>rfl) (λ _ _=>rfl) (λ _=>rfl) rfl (λ _=>rfl)) (λ _ _=>rfl)) (am (dg (dh dC (af rfl) (aw (λ _ _=>rfl) (yh (aX vI (be (ac (i:=1) rfl) (by rw[hK];rfl) rfl (by decide)) bm (aw (λ _ _=>rfl) (cQ (eL (H.slot2)) (jV (af rfl) (af rfl)) (λ _=>rfl)) aJ) (λ _ _=>rfl) (λ _ _=>rfl)) (λ _=>rfl)) aJ) (λ _ _=>rfl) (λ _ _=>rfl) (λ _=>rfl) rfl (λ _=>rfl)) (λ _ _=>rfl)) (am (a_ (aV (λ _ _=>rfl) (qg (af rfl) (af rfl))) (aX di (be (ac (i:=2) rfl) (by rw[hK];rfl) rfl (by decide)) bm (aw (λ _ _=>rfl) (af rfl) aJ) (λ _ _=>rfl) (λ _ _=>rfl)) (λ _ _=>⟨rfl,rfl⟩)) (am (dg (dh dC (af rfl) (aw (λ _ _=>rfl) (af rfl) aJ) (λ _ _=>rfl) (λ _ _=>rfl) (λ _=>rfl) rfl (λ _=>rfl)) (λ _ _=>rfl)) ax))))) (am (mv (jj (af rfl) (λ _ _=>rfl)) (am (vt rfl rfl (be (ac (i:=3) rfl) (by rw[hK];rfl) rfl (by decide)) (cq (af rfl) (o8 ba)) (am (ya (af rfl) (ia sX (af rfl) (λ _=>rfl) rfl)) (am (dg (ia sX (af rfl) (λ _=>rfl) rfl) (λ _ _=>rfl)) ax)) (λ _=>rfl) (λ _ _=>⟨rfl,rfl⟩)) ax) (am o4 ax)) ax)) ax) ax)) ax (λ _ _=>rfl) (λ _ _=>rfl)) (am (b_ cM) ax)))))))
theorem ev {G:Gd}{ps:PySem.Params}(H:Hd03 G ps):SC G (cm 1 7 cf) (.ref 127):=by
 obtain⟨_,_,F,hb⟩:=eB H
 exact gO F hb
noncomputable def dt:Nm:=⟨["self","cycle"],["ValueError","CycleError"],true⟩
noncomputable def NC1:Nm:=⟨[Str.ofString ".0",Str.ofString "i"],[],false⟩
noncomputable def bU:SF:=ao (dL (fq true (du (bO 137 1) (cV 0))) (ao (dS) (aC)) (aC)) (ao (bv (lZ (hY 137 1) (cV 0)) (dq 64 2 0 [.loc,.loc] (iB .dict qv (du (bO 137 0) (cV 0))) (gV 1) (l8 (du (cP 40 1) (cV 1)) (cC (.int 0))) [] (du (cP 40 0) (cV 1)))) (ao (bv (gV 1) (dZ 137 (cm 1 7 cf) (cV 0))) (ao (dL (tE (cV 1)) (ao (dS) (aC)) (aC)) (aC))))
theorem eZ {G:Gd}{ps:PySem.Params}(H:Hd03 G ps):∃fd body,eQ G dt 1 92 fd body/\fw G dt bU body:=by
 have hK:=H.K
 refine⟨_,_,⟨⟨⟨_,by rw[hK];rfl,rfl⟩,by rw[hK];rfl,rfl,rfl,rfl,by decide,by decide,by decide,by decide,by decide,rfl,rfl,rfl⟩,(l1 λ _=>rfl)⟩,?_⟩
 exact(am (b6 (bj rfl (cQ (cH (H.ownA1)) (af rfl) (λ _=>rfl)) cM mY) (am d6 ax) ax) (am (a_ (aV (λ _ _=>rfl) (iy (iP (H.ownS1)) (af rfl))) (iV (N':=NC1) ⟨rfl,rfl,by decide,by decide,by decide,rfl,by decide,by decide,rfl,by decide,by decide⟩ (ia rE (cQ (cH (H.ownA0)) (af rfl) (λ _=>rfl)) (λ _=>rfl) rfl) (aW rfl) (p9 (bj rfl (cQ (eL (H.slot1)) (af rfl) (λ _=>rfl)) ba gx)) rfl (λ _ _=>rfl) (λ _ _=>rfl) .nil (cQ (eL (H.slot0)) (af rfl) (λ _=>rfl))) (λ _ _=>⟨rfl,rfl⟩)) (am (a_ (aV (λ _ _=>rfl) (aW rfl)) (h_ H.m_find_cycle (ev H) (af rfl) (λ _=>⟨_,rfl⟩)) (λ _ _=>⟨rfl,rfl⟩)) (am (b6 (jj (af rfl) (λ _ _=>rfl)) (am d6 ax) ax) ax))))
theorem eY {G:Gd}{ps:PySem.Params}(H:Hd03 G ps):oS G (mH 1 2 bU) 92:=by
 obtain⟨_,_,F,hb⟩:=eZ H
 exact xN F hb
noncomputable def cX:Nm:=⟨["self","result","n2i","node"],["ValueError","tuple","_NODE_OUT","len"],true⟩
noncomputable def bB:SF:=ao (dL (fq false (du (bO 137 1) (cV 0))) (ao (dS) (aC)) (aC)) (ao (bv (gV 1) (aP le (aq (du (bO 137 1) (cV 0)) (aI)))) (ao (bv (gV 2) (du (bO 137 0) (cV 0))) (ao (dM 64 (gV 3) (cV 1) (ao (bv (lZ (dW 40 1) (gd (cV 2) (cV 3))) (cC (.int (-1)))) (aC)) (aC)) (ao (cu (iB .list mS (du (bO 137 1) (cV 0)))) (ao (fP (bO 137 2) (hY 137 2) dN (cV 0) (aP dJ (aq (cV 1) (aI)))) (ao (cE (cV 1)) (aC)))))))
theorem eD {G:Gd}{ps:PySem.Params}(H:Hd03 G ps):∃fd body,eQ G cX 1 99 fd body/\fw G cX bB body:=by
 have hK:=H.K
 refine⟨_,_,⟨⟨⟨_,by rw[hK];rfl,rfl⟩,by rw[hK];rfl,rfl,rfl,rfl,by decide,by decide,by decide,by decide,by decide,rfl,rfl,rfl⟩,(l1 λ _=>rfl)⟩,?_⟩
 exact(am (b6 (bj rfl (cQ (cH (H.ownA1)) (af rfl) (λ _=>rfl)) cM iI) (am d6 ax) ax) (am (a_ (aV (λ _ _=>rfl) (aW rfl)) (aX tf (be (ac (i:=1) rfl) (by rw[hK];rfl) rfl (by decide)) cN (aw (λ _ _=>rfl) (cQ (cH (H.ownA1)) (af rfl) (λ _=>rfl)) aJ) (λ _ _=>rfl) (λ _ _=>rfl)) (λ _ _=>⟨rfl,rfl⟩)) (am (a_ (aV (λ _ _=>rfl) (aW rfl)) (cQ (cH (H.ownA0)) (af rfl) (λ _=>rfl)) (λ _ _=>⟨rfl,rfl⟩)) (am (eU (aW rfl) (af rfl) (am (a_ (aV (λ _ _=>rfl) (iy (gq (H.slot1)) (jV (af rfl) (af rfl)))) (bQ (ac (i:=2) rfl) (by rw[hK];exact⟨_,rfl⟩)) (λ _ _=>⟨rfl,rfl⟩)) ax) ax (λ _ _=>rfl) (λ _ _=>rfl)) (am (dg (ia sZ (cQ (cH (H.ownA1)) (af rfl) (λ _=>rfl)) (λ _=>rfl) rfl) (λ _ _=>rfl)) (am (jT (cH (H.ownA2)) (iP (H.ownS2)) mW (af rfl) (aX di (be (ac (i:=3) rfl) (by rw[hK];rfl) rfl (by decide)) bm (aw (λ _ _=>rfl) (af rfl) aJ) (λ _ _=>rfl) (λ _ _=>rfl))) (am (b_ (af rfl)) ax)))))))
theorem cR {G:Gd}{ps:PySem.Params}(H:Hd03 G ps):oS G (mH 1 4 bB) 99:=by
 obtain⟨_,_,F,hb⟩:=eD H
 exact xN F hb
noncomputable def cW:Nm:=⟨["self"],["ValueError","bool"],true⟩
noncomputable def bx:SF:=ao (dL (fq false (du (bO 137 1) (cV 0))) (ao (dS) (aC)) (aC)) (ao (cE (wI (cT (cK (λ a b=>decide (a<b)) (du (bO 137 3) (cV 0)) (du (bO 137 2) (cV 0)))) (aP ma (aq (du (bO 137 1) (cV 0)) (aI))))) (aC))
theorem eC {G:Gd}{ps:PySem.Params}(H:Hd03 G ps):∃fd body,eQ G cW 1 106 fd body/\fw G cW bx body:=by
 have hK:=H.K
 refine⟨_,_,⟨⟨⟨_,by rw[hK];rfl,rfl⟩,by rw[hK];rfl,rfl,rfl,rfl,by decide,by decide,by decide,by decide,by decide,rfl,rfl,rfl⟩,(l1 λ _=>rfl)⟩,?_⟩
 exact(am (b6 (bj rfl (cQ (cH (H.ownA1)) (af rfl) (λ _=>rfl)) cM iI) (am d6 ax) ax) (am (b_ (nS (mC rfl (cQ (cH (H.ownA3)) (af rfl) (λ _=>rfl)) (cQ (cH (H.ownA2)) (af rfl) (λ _=>rfl)) (gy (λ _ _=>rfl))) (aX vK (be (ac (i:=1) rfl) (by rw[hK];rfl) rfl (by decide)) cN (aw (λ _ _=>rfl) (cQ (cH (H.ownA1)) (af rfl) (λ _=>rfl)) aJ) (λ _ _=>rfl) (λ _ _=>rfl)))) ax))
noncomputable def b9:Nm:=⟨["self","nodes","n2i","node","nodeinfo","stat","successor","successor_info"],["ValueError","_NODE_OUT","_NODE_DONE"],true⟩
noncomputable def bS:SF:=ao (dL (fq false (du (bO 137 1) (cV 0))) (ao (dS) (aC)) (aC)) (ao (bv (gV 2) (du (bO 137 0) (cV 0))) (ao (dM 64 (gV 3) (cV 1) (ao (dL (fq false (ny 4 (cc .dict mR (cV 2) (aq (cV 3) (aI))))) (ao (dS) (aC)) (aC)) (ao (bv (gV 5) (du (cP 40 1) (cV 4))) (ao (dL (cK (λ a b=>a != b) (cV 5) (cC (.int (-1)))) (ao (dL (cK (λ a b=>decide (b<=a)) (cV 5) (cC (.int 0))) (ao (dS) (aC)) (ao (dL (l8 (cV 5) (cC (.int (-2)))) (ao (dS) (aC)) (ao (dS) (aC))) (aC))) (aC)) (aC)) (ao (bv (lZ (dW 40 1) (cV 4)) (cC (.int (-2)))) (ao (dM 64 (gV 6) (du (cP 40 2) (cV 4)) (ao (bv (gV 7) (gd (cV 2) (cV 6))) (ao (fP (cP 40 1) (dW 40 1) eW (cV 7) (cC (.int 1))) (ao (dL (l8 (du (cP 40 1) (cV 7)) (cC (.int 0))) (ao (cu (cc .list cD (du (bO 137 1) (cV 0)) (aq (cV 6) (aI)))) (aC)) (aC)) (aC)))) (aC)) (ao (fP (bO 137 3) (hY 137 3) dN (cV 0) (cC (.int 1))) (aC))))))) (aC)) (aC)))
theorem fO {G:Gd}{ps:PySem.Params}(H:Hd03 G ps):∃fd body,sg G b9 1 120 fd body/\fw G b9 bS body:=by
 have hK:=H.K
 refine⟨_,_,⟨⟨_,by rw[hK];rfl,rfl⟩,by rw[hK];rfl,rfl,rfl,rfl,(v1 (λ _=>rfl) λ _ _ _=>rfl),by decide,by decide,by decide,by decide,by decide,rfl,rfl,rfl⟩,?_⟩
 exact(am (b6 (bj rfl (cQ (cH (H.ownA1)) (af rfl) (λ _=>rfl)) cM iI) (am d6 ax) ax) (am (a_ (aV (λ _ _=>rfl) (aW rfl)) (cQ (cH (H.ownA0)) (af rfl) (λ _=>rfl)) (λ _ _=>⟨rfl,rfl⟩)) (am (eU (aW rfl) (af rfl) (am (b6 (bj rfl (o7 rfl (dh o5 (af rfl) (aw (λ _ _=>rfl) (af rfl) aJ) (λ _ _=>rfl) (λ _ _=>rfl) (λ _=>rfl) rfl (λ _=>rfl))) cM iI) (am d6 ax) ax) (am (a_ (aV (λ _ _=>rfl) (aW rfl)) (cQ (eL (H.slot1)) (af rfl) (λ _=>rfl)) (λ _ _=>⟨rfl,rfl⟩)) (am (b6 (bj rfl (af rfl) (bQ (ac (i:=1) rfl) (by rw[hK];exact⟨_,rfl⟩)) (gy (λ _ _=>rfl))) (am (b6 (bj rfl (af rfl) ba (gy (λ _ _=>rfl))) (am d6 ax) (am (b6 (bj rfl (af rfl) (bQ (ac (i:=2) rfl) (by rw[hK];exact⟨_,rfl⟩)) gx) (am d6 ax) (am d6 ax)) ax)) ax) ax) (am (a_ (aV (λ _ _=>rfl) (iy (gq (H.slot1)) (af rfl))) (bQ (ac (i:=2) rfl) (by rw[hK];exact⟨_,rfl⟩)) (λ _ _=>⟨rfl,rfl⟩)) (am (eU (aW rfl) (cQ (eL (H.slot2)) (af rfl) (λ _=>rfl)) (am (a_ (aV (λ _ _=>rfl) (aW rfl)) (jV (af rfl) (af rfl)) (λ _ _=>⟨rfl,rfl⟩)) (am (jT (eL (H.slot1)) (gq (H.slot1)) uf (af rfl) ba) (am (b6 (bj rfl (cQ (eL (H.slot1)) (af rfl) (λ _=>rfl)) ba gx) (am (dg (dh dC (cQ (cH (H.ownA1)) (af rfl) (λ _=>rfl)) (aw (λ _ _=>rfl) (af rfl) aJ) (λ _ _=>rfl) (λ _ _=>rfl) (λ _=>rfl) rfl (λ _=>rfl)) (λ _ _=>rfl)) ax) ax) ax))) ax (λ _ _=>rfl) (λ _ _=>rfl)) (am (jT (cH (H.ownA3)) (iP (H.ownS3)) mW (af rfl) ba) ax)))))) ax (λ _ _=>rfl) (λ _ _=>rfl)) ax)))
theorem dH {G:Gd}{ps:PySem.Params}(H:Hd03 G ps):oS G (tz 1 8 bS) 120:=by
 obtain⟨_,_,F,hb⟩:=fO H
 exact dr_V F hb
noncomputable def oQ:Nm:=⟨["mode"],[],true⟩
noncomputable def ls:SF:=ao (cE (eS (oB .BitAnd) (cV 0) (cC (.int 61440)))) (aC)
theorem r9 {G:Gd}{ps:PySem.Params}(H:Hd03 G ps):∃fd body,eQ G oQ 1 148 fd body/\fw G oQ ls body:=by
 have hK:=H.K
 refine⟨_,_,⟨⟨⟨_,by rw[hK];rfl,rfl⟩,by rw[hK];rfl,rfl,rfl,rfl,by decide,by decide,by decide,by decide,by decide,rfl,rfl,rfl⟩,(l1 λ _=>rfl)⟩,?_⟩
 exact(am (b_ (dy (hf_b .BitAnd) (af rfl) ba)) ax)
theorem rJ {G:Gd}{ps:PySem.Params}(H:Hd03 G ps):SC G (cm 1 1 ls) (.ref 148):=by
 obtain⟨_,_,F,hb⟩:=r9 H
 exact gO F hb
noncomputable def lp:Nm:=⟨["mode","perm","index","table","bit","char"],["enumerate","_filemode_table","S_IFMT"],true⟩
noncomputable def lr:SF:=ao (bv (gV 1) (dj (aI))) (ao (tn 64 2 3 (cC (.kt 181)) (ao (dM 64 (gT2 4 5) (cV 3) (ao (dL (l8 (cV 2) (cC (.int 0))) (ao (dL (l8 (aP (cm 1 1 ls) (aq (cV 0) (aI))) (cV 4)) (ao (cu (cc .list cD (cV 1) (aq (cV 5) (aI)))) (ao (vL) (aC))) (aC)) (aC)) (ao (dL (l8 (eS (oB .BitAnd) (cV 0) (cV 4)) (cV 4)) (ao (cu (cc .list cD (cV 1) (aq (cV 5) (aI)))) (ao (vL) (aC))) (aC)) (aC))) (aC)) (ao (dL (l8 (cV 2) (cC (.int 0))) (ao (cu (cc .list cD (cV 1) (aq (cC (.str [63])) (aI)))) (aC)) (ao (cu (cc .list cD (cV 1) (aq (cC (.str [45])) (aI)))) (aC))) (aC))) (aC)) (aC)) (ao (cE (cc .str jF (cC (.str [])) (aq (cV 1) (aI)))) (aC)))
theorem oK {G:Gd}{ps:PySem.Params}(H:Hd03 G ps):∃fd body,eQ G lp 1 188 fd body/\fw G lp lr body:=by
 have hK:=H.K
 refine⟨_,_,⟨⟨⟨_,by rw[hK];rfl,rfl⟩,by rw[hK];rfl,rfl,rfl,rfl,by decide,by decide,by decide,by decide,by decide,rfl,rfl,rfl⟩,(l1 λ _=>rfl)⟩,?_⟩
 exact(am (a_ (aV (λ _ _=>rfl) (aW rfl)) (cw aJ) (λ _ _=>⟨rfl,rfl⟩)) (am (vv rfl rfl (be (ac (i:=0) rfl) (by rw[hK];rfl) rfl (by decide)) (λ _ _=>rfl) (λ _ _=>rfl) (qk (ac (i:=1) rfl) (by rw[hK];rfl) H.table) (am (vu (vA rfl rfl) (af rfl) (am (b6 (bj rfl (af rfl) ba gx) (am (b6 (bj rfl (aX (rJ H) (c9 (ac (i:=2) rfl) (by rw[hK];rfl)) (jP (by rw[hK];rfl)) (aw (λ _ _=>rfl) (af rfl) aJ) (λ _ _=>rfl) (λ _ _=>rfl)) (af rfl) gx) (am (dg (dh dC (af rfl) (aw (λ _ _=>rfl) (af rfl) aJ) (λ _ _=>rfl) (λ _ _=>rfl) (λ _=>rfl) rfl (λ _=>rfl)) (λ _ _=>rfl)) (am o4 ax)) ax) ax) (am (b6 (bj rfl (dy (hf_b .BitAnd) (af rfl) (af rfl)) (af rfl) gx) (am (dg (dh dC (af rfl) (aw (λ _ _=>rfl) (af rfl) aJ) (λ _ _=>rfl) (λ _ _=>rfl) (λ _=>rfl) rfl (λ _=>rfl)) (λ _ _=>rfl)) (am o4 ax)) ax) ax)) ax) (am (b6 (bj rfl (af rfl) ba gx) (am (dg (dh dC (af rfl) (aw (λ _ _=>rfl) (mA rfl) aJ) (λ _ _=>rfl) (λ _ _=>rfl) (λ _=>rfl) rfl (λ _=>rfl)) (λ _ _=>rfl)) ax) (am (dg (dh dC (af rfl) (aw (λ _ _=>rfl) (mA rfl) aJ) (λ _ _=>rfl) (λ _ _=>rfl) (λ _=>rfl) rfl (λ _=>rfl)) (λ _ _=>rfl)) ax)) ax) (vV) (λ _ _=>rfl)) ax) ax) (am (b_ (dh qb (mA rfl) (aw (λ _ _=>rfl) (af rfl) aJ) (λ _ _=>rfl) (λ _ _=>rfl) (λ _=>rfl) rfl (λ _=>rfl))) ax)))
noncomputable def fh:Nm:=⟨["ch_a","ch_b"],["_CASE_COST","_MOVE_COST"],true⟩
noncomputable def dK:SF:=ao (dL (l8 (cV 0) (cV 1)) (ao (cE (cC (.int 0))) (aC)) (aC)) (ao (dL (l8 (iB .str pv (cV 0)) (iB .str pv (cV 1))) (ao (cE (cC (.int 1))) (aC)) (aC)) (ao (cE (cC (.int 2))) (aC)))
theorem hU {G:Gd}{ps:PySem.Params}(H:Hd03 G ps):∃fd body,eQ G fh 2 195 fd body/\fw G fh dK body:=by
 have hK:=H.K
 refine⟨_,_,⟨⟨⟨_,by rw[hK];rfl,rfl⟩,by rw[hK];rfl,rfl,rfl,rfl,by decide,by decide,by decide,by decide,by decide,rfl,rfl,rfl⟩,(l2 λ _ _=>rfl)⟩,?_⟩
 exact(am (b6 (bj rfl (af rfl) (af rfl) gx) (am (b_ ba) ax) ax) (am (b6 (bj rfl (ia nP (af rfl) (λ _=>rfl) rfl) (ia nP (af rfl) (λ _=>rfl) rfl) gx) (am (b_ (bQ (ac (i:=0) rfl) (by rw[hK];exact⟨_,rfl⟩))) ax) ax) (am (b_ (bQ (ac (i:=1) rfl) (by rw[hK];exact⟨_,rfl⟩))) ax)))
theorem gM {G:Gd}{ps:PySem.Params}(H:Hd03 G ps):SC G (cm 2 2 dK) (.ref 195):=by
 obtain⟨_,_,F,hb⟩:=hU H
 exact gO F hb
noncomputable def ee:Nm:=⟨["a","b","max_cost","index","result","distance","row","minimum","substitute","insert_delete","bchar","bindex","pre","post"],["_MOVE_COST","len","_MAX_STRING_SIZE","list","range","_substitution_cost","min"],true⟩
noncomputable def ef:SF:=ao (dL (l8 (cV 0) (cV 1)) (ao (cE (cC (.int 0))) (aC)) (aC)) (ao (bv (gV 12) (cC (.int 0))) (ao (rK 64 (o3 (tE (f6 (cV 0) (cV 12) (cC .none))) (o3 (tE (f6 (cV 1) (cV 12) (cC .none))) (o3 (l8 (bN (cV 0) (cV 12)) (bN (cV 1) (cV 12))) (c8)))) (ao (vM 12 dN (cC (.int 1))) (aC)) (aC)) (ao (bv (gV 0) (f6 (cV 0) (cV 12) (cC .none))) (ao (bv (gV 1) (f6 (cV 1) (cV 12) (cC .none))) (ao (bv (gV 13) (cC (.int 0))) (ao (rK 64 (o3 (tE (f6 (cV 0) (cC .none) (wI (cV 13) (cC .none)))) (o3 (tE (f6 (cV 1) (cC .none) (wI (cV 13) (cC .none)))) (o3 (l8 (bN (cV 0) (eS eW (cV 13) (cC (.int 1)))) (bN (cV 1) (eS eW (cV 13) (cC (.int 1))))) (c8)))) (ao (vM 13 eW (cC (.int 1))) (aC)) (aC)) (ao (bv (gV 0) (f6 (cV 0) (cC .none) (wI (cV 13) (cC .none)))) (ao (bv (gV 1) (f6 (cV 1) (cC .none) (wI (cV 13) (cC .none)))) (ao (dL (p7 (lx (tE (cV 0))) (p7 (lx (tE (cV 1))) (gH))) (ao (cE (eS tK (cC (.int 2)) (eS dN (aP dJ (aq (cV 0) (aI))) (aP dJ (aq (cV 1) (aI)))))) (aC)) (aC)) (ao (dL (p7 (cK (λ a b=>decide (b<a)) (aP dJ (aq (cV 0) (aI))) (cC (.int 40))) (p7 (cK (λ a b=>decide (b<a)) (aP dJ (aq (cV 1) (aI))) (cC (.int 40))) (gH))) (ao (cE (eS dN (cV 2) (cC (.int 1)))) (aC)) (aC)) (ao (dL (cK (λ a b=>decide (a<b)) (aP dJ (aq (cV 1) (aI))) (aP dJ (aq (cV 0) (aI)))) (ao (dS) (aC)) (aC)) (ao (dL (cK (λ a b=>decide (b<a)) (eS tK (eS eW (aP dJ (aq (cV 1) (aI))) (aP dJ (aq (cV 0) (aI)))) (cC (.int 2))) (cV 2)) (ao (cE (eS dN (cV 2) (cC (.int 1)))) (aC)) (aC)) (ao (bv (gV 6) (aP xQ (aq (aP bH (aq (cC (.int 2)) (aq (eS tK (cC (.int 2)) (eS dN (aP dJ (aq (cV 0) (aI))) (cC (.int 1)))) (aq (cC (.int 2)) (aI))))) (aI)))) (ao (bv (gV 4) (cC (.int 0))) (ao (dM 64 (gV 11) (aP bH (aq (aP dJ (aq (cV 1) (aI))) (aI))) (ao (bv (gV 10) (bN (cV 1) (cV 11))) (ao (bv (g2 (gV 5) (gV 4)) (eS tK (cV 11) (cC (.int 2)))) (ao (bv (gV 7) (cC (.int 9223372036854775807))) (ao (dM 64 (gV 3) (aP bH (aq (aP dJ (aq (cV 0) (aI))) (aI))) (ao (bv (gV 8) (eS dN (cV 5) (aP (cm 2 2 dK) (aq (cV 10) (aq (bN (cV 0) (cV 3)) (aI)))))) (ao (bv (gV 5) (bN (cV 6) (cV 3))) (ao (bv (gV 9) (eS dN (aP zo (aq (cV 4) (aq (cV 5) (aI)))) (cC (.int 2)))) (ao (bv (gV 4) (aP zo (aq (cV 9) (aq (cV 8) (aI))))) (ao (bv (gSub (cV 6) (cV 3)) (cV 4)) (ao (dL (cK (λ a b=>decide (a<b)) (cV 4) (cV 7)) (ao (bv (gV 7) (cV 4)) (aC)) (aC)) (aC))))))) (aC)) (ao (dL (cK (λ a b=>decide (b<a)) (cV 7) (cV 2)) (ao (cE (eS dN (cV 2) (cC (.int 1)))) (aC)) (aC)) (aC)))))) (aC)) (ao (cE (cV 4)) (aC)))))))))))))))))
theorem ge {G:Gd}{ps:PySem.Params}(H:Hd03 G ps):∃fd body,eQ G ee 3 202 fd body/\fw G ee ef body:=by
 have hK:=H.K
 refine⟨_,_,⟨⟨⟨_,by rw[hK];rfl,rfl⟩,by rw[hK];rfl,rfl,rfl,rfl,by decide,by decide,by decide,by decide,by decide,rfl,rfl,rfl⟩,(l3 λ _ _ _=>rfl)⟩,?_⟩
 exact(am (b6 (bj rfl (af rfl) (af rfl) gx) (am (b_ ba) ax) ax) (am (a_ (aV (λ _ _=>rfl) (aW rfl)) ba (λ _ _=>⟨rfl,rfl⟩)) (am (mv (jk (jj (eu (af rfl) (cL (af rfl)) dl) (λ _ _=>rfl)) (jk (jj (eu (af rfl) (cL (af rfl)) dl) (λ _ _=>rfl)) (jk (bj rfl (cq (af rfl) (af rfl)) (cq (af rfl) (af rfl)) gx) p_))) (am (sV rfl mW ba) ax) ax) (am (a_ (aV (λ _ _=>rfl) (aW rfl)) (eu (af rfl) (cL (af rfl)) dl) (λ _ _=>⟨rfl,rfl⟩)) (am (a_ (aV (λ _ _=>rfl) (aW rfl)) (eu (af rfl) (cL (af rfl)) dl) (λ _ _=>⟨rfl,rfl⟩)) (am (a_ (aV (λ _ _=>rfl) (aW rfl)) ba (λ _ _=>⟨rfl,rfl⟩)) (am (mv (jk (jj (eu (af rfl) dl (cL (nS (af rfl) cM))) (λ _ _=>rfl)) (jk (jj (eu (af rfl) dl (cL (nS (af rfl) cM))) (λ _ _=>rfl)) (jk (bj rfl (cq (af rfl) (dy jq (af rfl) ba)) (cq (af rfl) (dy jq (af rfl) ba)) gx) p_))) (am (sV rfl uf ba) ax) ax) (am (a_ (aV (λ _ _=>rfl) (aW rfl)) (eu (af rfl) dl (cL (nS (af rfl) cM))) (λ _ _=>⟨rfl,rfl⟩)) (am (a_ (aV (λ _ _=>rfl) (aW rfl)) (eu (af rfl) dl (cL (nS (af rfl) cM))) (λ _ _=>⟨rfl,rfl⟩)) (am (b6 (iT (mt (jj (af rfl) (λ _ _=>rfl))) (iT (mt (jj (af rfl) (λ _ _=>rfl))) mr)) (am (b_ (dy mX (bQ (ac (i:=0) rfl) (by rw[hK];exact⟨_,rfl⟩)) (dy fB (aX di (be (ac (i:=1) rfl) (by rw[hK];rfl) rfl (by decide)) bm (aw (λ _ _=>rfl) (af rfl) aJ) (λ _ _=>rfl) (λ _ _=>rfl)) (aX di (be (ac (i:=1) rfl) (by rw[hK];rfl) rfl (by decide)) bm (aw (λ _ _=>rfl) (af rfl) aJ) (λ _ _=>rfl) (λ _ _=>rfl))))) ax) ax) (am (b6 (iT (bj rfl (aX di (be (ac (i:=1) rfl) (by rw[hK];rfl) rfl (by decide)) bm (aw (λ _ _=>rfl) (af rfl) aJ) (λ _ _=>rfl) (λ _ _=>rfl)) (bQ (ac (i:=2) rfl) (by rw[hK];exact⟨_,rfl⟩)) (gy (λ _ _=>rfl))) (iT (bj rfl (aX di (be (ac (i:=1) rfl) (by rw[hK];rfl) rfl (by decide)) bm (aw (λ _ _=>rfl) (af rfl) aJ) (λ _ _=>rfl) (λ _ _=>rfl)) (bQ (ac (i:=2) rfl) (by rw[hK];exact⟨_,rfl⟩)) (gy (λ _ _=>rfl))) mr)) (am (b_ (dy fB (af rfl) ba)) ax) ax) (am (b6 (bj rfl (aX di (be (ac (i:=1) rfl) (by rw[hK];rfl) rfl (by decide)) bm (aw (λ _ _=>rfl) (af rfl) aJ) (λ _ _=>rfl) (λ _ _=>rfl)) (aX di (be (ac (i:=1) rfl) (by rw[hK];rfl) rfl (by decide)) bm (aw (λ _ _=>rfl) (af rfl) aJ) (λ _ _=>rfl) (λ _ _=>rfl)) (gy (λ _ _=>rfl))) (am d6 ax) ax) (am (b6 (bj rfl (dy mX (dy jq (aX di (be (ac (i:=1) rfl) (by rw[hK];rfl) rfl (by decide)) bm (aw (λ _ _=>rfl) (af rfl) aJ) (λ _ _=>rfl) (λ _ _=>rfl)) (aX di (be (ac (i:=1) rfl) (by rw[hK];rfl) rfl (by decide)) bm (aw (λ _ _=>rfl) (af rfl) aJ) (λ _ _=>rfl) (λ _ _=>rfl))) (bQ (ac (i:=0) rfl) (by rw[hK];exact⟨_,rfl⟩))) (af rfl) (gy (λ _ _=>rfl))) (am (b_ (dy fB (af rfl) ba)) ax) ax) (am (a_ (aV (λ _ _=>rfl) (aW rfl)) (aX vH (be (ac (i:=3) rfl) (by rw[hK];rfl) rfl (by decide)) cN (aw (λ _ _=>rfl) (aX dz (be (ac (i:=4) rfl) (by rw[hK];rfl) rfl (by decide)) cN (aw (λ _ _=>rfl) (bQ (ac (i:=0) rfl) (by rw[hK];exact⟨_,rfl⟩)) (aw (λ _ _=>rfl) (dy mX (bQ (ac (i:=0) rfl) (by rw[hK];exact⟨_,rfl⟩)) (dy fB (aX di (be (ac (i:=1) rfl) (by rw[hK];rfl) rfl (by decide)) bm (aw (λ _ _=>rfl) (af rfl) aJ) (λ _ _=>rfl) (λ _ _=>rfl)) ba)) (aw (λ _ _=>rfl) (bQ (ac (i:=0) rfl) (by rw[hK];exact⟨_,rfl⟩)) aJ))) (λ _ _=>rfl) (λ _ _=>rfl)) aJ) (λ _ _=>rfl) (λ _ _=>rfl)) (λ _ _=>⟨rfl,rfl⟩)) (am (a_ (aV (λ _ _=>rfl) (aW rfl)) ba (λ _ _=>⟨rfl,rfl⟩)) (am (eU (aW rfl) (aX dz (be (ac (i:=4) rfl) (by rw[hK];rfl) rfl (by decide)) cN (aw (λ _ _=>rfl) (aX di (be (ac (i:=1) rfl) (by rw[hK];rfl) rfl (by decide)) bm (aw (λ _ _=>rfl) (af rfl) aJ) (λ _ _=>rfl) (λ _ _=>rfl)) aJ) (λ _ _=>rfl) (λ _ _=>rfl)) (am (a_ (aV (λ _ _=>rfl) (aW rfl)) (cq (af rfl) (af rfl)) (λ _ _=>⟨rfl,rfl⟩)) (am (a_ (qf (λ _ _=>rfl) (λ _ _=>rfl) (aW rfl) (aW rfl)) (dy mX (af rfl) (bQ (ac (i:=0) rfl) (by rw[hK];exact⟨_,rfl⟩))) (λ _ _=>⟨rfl,rfl⟩)) (am (a_ (aV (λ _ _=>rfl) (aW rfl)) ba (λ _ _=>⟨rfl,rfl⟩)) (am (eU (aW rfl) (aX dz (be (ac (i:=4) rfl) (by rw[hK];rfl) rfl (by decide)) cN (aw (λ _ _=>rfl) (aX di (be (ac (i:=1) rfl) (by rw[hK];rfl) rfl (by decide)) bm (aw (λ _ _=>rfl) (af rfl) aJ) (λ _ _=>rfl) (λ _ _=>rfl)) aJ) (λ _ _=>rfl) (λ _ _=>rfl)) (am (a_ (aV (λ _ _=>rfl) (aW rfl)) (dy fB (af rfl) (aX (gM H) (c9 (ac (i:=5) rfl) (by rw[hK];rfl)) (jP (by rw[hK];rfl)) (aw (λ _ _=>rfl) (af rfl) (aw (λ _ _=>rfl) (cq (af rfl) (af rfl)) aJ)) (λ _ _=>rfl) (λ _ _=>rfl))) (λ _ _=>⟨rfl,rfl⟩)) (am (a_ (aV (λ _ _=>rfl) (aW rfl)) (cq (af rfl) (af rfl)) (λ _ _=>⟨rfl,rfl⟩)) (am (a_ (aV (λ _ _=>rfl) (aW rfl)) (dy fB (aX tj (be (ac (i:=6) rfl) (by rw[hK];rfl) rfl (by decide)) bm (aw (λ _ _=>rfl) (af rfl) (aw (λ _ _=>rfl) (af rfl) aJ)) (λ _ _=>rfl) (λ _ _=>rfl)) (bQ (ac (i:=0) rfl) (by rw[hK];exact⟨_,rfl⟩))) (λ _ _=>⟨rfl,rfl⟩)) (am (a_ (aV (λ _ _=>rfl) (aW rfl)) (aX tj (be (ac (i:=6) rfl) (by rw[hK];rfl) rfl (by decide)) bm (aw (λ _ _=>rfl) (af rfl) (aw (λ _ _=>rfl) (af rfl) aJ)) (λ _ _=>rfl) (λ _ _=>rfl)) (λ _ _=>⟨rfl,rfl⟩)) (am (a_ (aV (λ _ _=>rfl) (yf (af rfl) (af rfl))) (af rfl) (λ _ _=>⟨rfl,rfl⟩)) (am (b6 (bj rfl (af rfl) (af rfl) (gy (λ _ _=>rfl))) (am (a_ (aV (λ _ _=>rfl) (aW rfl)) (af rfl) (λ _ _=>⟨rfl,rfl⟩)) ax) ax) ax)))))) ax (λ _ _=>rfl) (λ _ _=>rfl)) (am (b6 (bj rfl (af rfl) (af rfl) (gy (λ _ _=>rfl))) (am (b_ (dy fB (af rfl) ba)) ax) ax) ax))))) ax (λ _ _=>rfl) (λ _ _=>rfl)) (am (b_ (af rfl)) ax)))))))))))))))))
noncomputable def ym (r:RF)(v:AV):Bool:=RF.rec (motive:=λ _=>Bool) false (λ _=>false) (λ _=>false) (λ _=>false) (λ w _=>eM w v) r
theorem ua {a b:AV}(h:eM a b=true):a=b:=by
 cases a<;>cases b<;>first|(cases h;done)|(rw[eq_of_beq (show(_ == _)=true from h)])|(rw[eq_of_beq (show(_ == _)=true from(iL _ _).symm.trans h)])
theorem qq {r:RF}{v:AV}(h:ym r v=true):∃σ,r= .rt v σ:=by
 cases r<;>first|cases h|exact⟨_,by rw[ua h]⟩
noncomputable def nE (m k:Nat):Bool:=Nat.beq (Nat.mod (Nat.div m (Nat.pow 2 k)) 2) 1
noncomputable def yz (q:Nat):Nat:=bb (Nat.beq q 4) 100 (bb (Nat.beq q 2) 99 (bb (Nat.beq q 6) 98 (bb (Nat.beq q 1) 112 108)))
noncomputable def tx (q r:Nat):List Nat:=[yz q,bb (nE r 8) 114 45,bb (nE r 7) 119 45,bb (nE r 6) 120 45,bb (nE r 5) 114 45,bb (nE r 4) 119 45,bb (nE r 3) 120 45,bb (nE r 2) 114 45,bb (nE r 1) 119 45,bb (nE r 0) 120 45]
noncomputable def fmC (q r:Nat):Bool:=ym (lr ⟨[],2,true,c_⟩ ⟨[],f_ [.int (.ofNat (Nat.add (Nat.mul q 4096) r))] 6⟩) (.str (tx q r))
noncomputable def lh (p:Nat->Bool)(n:Nat):Bool:=Nat.rec (motive:=λ _=>Bool) true (λ k ih=>bb (p k) ih false) n
theorem j5 {p:Nat->Bool}:∀{n:Nat},lh p n=true->∀k,k<n->p k=true
 |0,_,_,h=>absurd h (bK _)
 |n+1,h,k,hk=>by
  refine ay (show bb (p n) (lh p n) false=true from h) λ h1 h2=>?_
  rcases Nat.lt_or_ge k n with z|z
  ·exact j5 h2 k z
  ·rw[Nat.le_antisymm (Nat.le_of_lt_succ hk) z];exact h1
noncomputable def zM (q b:Nat):Bool:=lh (λ r=>fmC q (Nat.add (Nat.mul b 64) r)) 64
theorem fm_4:lh (zM 4) 8=true:=by decide+kernel
theorem fm_2:lh (zM 2) 8=true:=by decide+kernel
theorem fm_6:lh (zM 6) 8=true:=by decide+kernel
theorem fm_1:lh (zM 1) 8=true:=by decide+kernel
theorem fm_10:lh (zM 10) 8=true:=by decide+kernel
theorem fm_ok {q r:Nat}(hq:q∈[4,2,6,1,10])(hr:r<512):fmC q r=true:=by
 have key:lh (zM q) 8=true:=by
  simp only[List.mem_cons,bh,or_false]at hq
  rcases hq with rfl|rfl|rfl|rfl|rfl
  ·exact fm_4
  ·exact fm_2
  ·exact fm_6
  ·exact fm_1
  ·exact fm_10
 have:=j5 (j5 key (r / 64) (by omega)) (r % 64) (Nat.mod_lt _ (by decide))
 have e:Nat.add (Nat.mul (r / 64) 64) (r % 64)=r:=Nat.div_add_mod' r 64
 rw[e]at this
 exact this
noncomputable def tZ (k:Int):Nat:=yz (match k with|0=>4|1=>2|2=>6|3=>1|_=>10)
noncomputable def im (p:Nat):List Int->List Int:=Nat.rec (motive:=λ _=>List Int->List Int) (λ l=>List.rec (motive:=λ _=>List Int) [] (λ a t _=>List.rec (motive:=λ _=>List Int) [a] (λ b u _=>b::a::u) t) l) (λ _ ih l=>List.rec (motive:=λ _=>List Int) [] (λ a t _=>a::ih t) l) p
noncomputable def jf (o:List Int):List Nat:=List.rec (motive:=λ _=>List Nat) [] (λ a _ ih=>tZ a::ih) o
noncomputable def eg (k:Int)(l:List Int):Bool:=List.rec (motive:=λ _=>Bool) false (λ a _ ih=>bb (a == k) true ih) l
noncomputable def ndI (l:List Int):Bool:=List.rec (motive:=λ _=>Bool) true (λ a l ih=>bb (eg a l) false ih) l
noncomputable def iu {α:Type}(p:α->Bool)(l:List α):Bool:=List.rec (motive:=λ _=>Bool) true (λ a _ ih=>bb (p a) ih false) l
theorem cZ {α:Type}{p:α->Bool}:∀{l:List α},iu p l=true->∀x∈l,p x=true
 |[],_,_,h=>by cases h
 |a::l,h,x,hx=>by
  refine ay (show bb (p a) (iu p l) false=true from h) λ h1 h2=>?_
  rcases List.mem_cons.mp hx with rfl|hx
  ·exact h1
  ·exact cZ h2 x hx
noncomputable def lvC (o:List Int)(p:Nat):Bool:=ym (ef ⟨[],2,true,c_⟩ ⟨[],f_ [.str (jf o),.str (jf (im p o)),.int 9] 14⟩) (.int 4)
noncomputable def R4:List Int:=[0,1,2,3]
noncomputable def R5:List Int:=[0,1,2,3,4]
noncomputable def lvO (o:List Int)(n:Nat):Bool:=bb (ndI o) (lh (lvC o) n) true
noncomputable def zL (a:Int):Bool:=iu (λ b=>iu (λ c=>iu (λ d=>iu (λ e=>lvO [a,b,c,d,e] 4) R5) R5) R5) R5
theorem lv_0:zL 0=true:=by decide+kernel
theorem lv_1:zL 1=true:=by decide+kernel
theorem lv_2:zL 2=true:=by decide+kernel
theorem lv_3:zL 3=true:=by decide+kernel
theorem lv_4:zL 4=true:=by decide+kernel
theorem lv_s:iu (λ a=>iu (λ b=>iu (λ c=>iu (λ d=>lvO [a,b,c,d] 3) R4) R4) R4) R4=true:=by decide+kernel
theorem d9 {k:Int}:∀{l:List Int},eg k l=true↔k∈l
 |[]=>⟨nofun,nofun⟩
 |a::l=>by
  show bb (a == k) true (eg k l)=true↔_
  rw[List.mem_cons]
  cases q:a == k with
  |true=>exact⟨λ _=>.inl (eq_of_beq q).symm,λ _=>rfl⟩
  |false=>
   show eg k l=true↔_
   rw[d9]
   exact⟨.inr,λ h=>h.resolve_left λ e=>by rw[e,beq_self_eq_true]at q;cases q⟩
theorem jZ:∀{l:List Int},ndI l=true↔l.Nodup
 |[]=>⟨λ _=>List.nodup_nil,λ _=>rfl⟩
 |q::l=>by
  show bb (eg q l) false (ndI l)=true↔_
  rw[List.nodup_cons,← jZ (l:=l)]
  cases z:eg q l with
  |false=>exact⟨λ h=>⟨λ m=>absurd (z.symm.trans (d9.mpr m)) nofun,h⟩,λ h=>h.2⟩
  |true=>exact⟨nofun,λ h=>absurd (d9.mp z) h.1⟩
structure Ord (m:Nat) (o:List Int):Prop where
 nd:o.Nodup
 len:o.length=m
 lt:∀k∈o,0<=k/\k<m
theorem pu {k:Int}(h:0<=k/\k<5):k∈R5:=by
 have:k=0∨k=1∨k=2∨k=3∨k=4:=by exact ω540 h
 unfold R5;simp only[List.mem_cons,bh,or_false];exact this
theorem tV {k:Int}(h:0<=k/\k<4):k∈R4:=by
 have:k=0∨k=1∨k=2∨k=3:=by exact ω541 h
 unfold R4;simp only[List.mem_cons,bh,or_false];exact this
theorem yx {a:Int}(h:a∈R5):zL a=true:=by
 unfold R5 at h
 simp only[List.mem_cons,bh,or_false]at h
 rcases h with rfl|rfl|rfl|rfl|rfl
 ·exact lv_0
 ·exact lv_1
 ·exact lv_2
 ·exact lv_3
 ·exact lv_4
theorem tY {o:List Int}{n p:Nat}(hd:o.Nodup)(h:lvO o n=true)(hp:p<n):lvC o p=true:=by
 have h:bb (ndI o) (lh (lvC o) n) true=true:=h
 rw[jZ.mpr hd]at h
 exact j5 h p hp
theorem lv_ok {m:Nat}{o:List Int}(hm:m=4∨m=5)(H:Ord m o){p:Nat}(hp:p+1<m):lvC o p=true:=by
 obtain⟨nd,len,lt⟩:=H
 rcases hm with rfl|rfl
 ·match o,len with
  |[a,b,c,d],_=>
   have M:∀x∈[a,b,c,d],x∈R4:=λ x hx=>tV (lt x hx)
   exact tY nd (cZ (cZ (cZ (cZ lv_s a (M a (by simp))) b (M b (by simp))) c (M c (by simp))) d (M d (by simp))) (bu hp)
 ·match o,len with
  |[a,b,c,d,e],_=>
   have M:∀x∈[a,b,c,d,e],x∈R5:=λ x hx=>pu (lt x hx)
   exact tY nd (cZ (cZ (cZ (cZ (yx (M a (by simp))) b (M b (by simp))) c (M c (by simp))) d (M d (by simp))) e (M e (by simp))) (bu hp)
noncomputable def fm:List AV->Option AV:=λ vs=>lC vs none λ x l=>lE l none<|x.i none λ i=>Int.casesOn (motive:=λ _=>Option AV) i (λ i=>bb (eg (Int.ofNat (i / 4096)) [4,2,6,1,10]) (bb (Nat.ble (i % 4096) 511) (some (.str (tx (i / 4096) (i % 4096)))) none) none) λ _=>none
open Classical in
noncomputable def lv:List AV->Option AV:=λ vs=>if∃(m:Nat) (o:List Int) (p:Nat),(m=4∨m=5)/\Ord m o/\p+1<m/\vs=[AV.str (jf o),AV.str (jf (im p o)),AV.int 9]then some (AV.int 4)else none
theorem lv_at {m:Nat}{o:List Int}{p:Nat}(hm:m=4∨m=5)(H:Ord m o)(hp:p+1<m):lv [.str (jf o),.str (jf (im p o)),.int 9]=some (.int 4):=if_pos ⟨m,o,p,hm,H,hp,rfl⟩
theorem fm_at {q r:Nat}(hq:q∈[4,2,6,1,10])(hr:r<512):fm [.int (.ofNat (q*4096+r))]=some (.str (tx q r)):=by
 have e1:(q*4096+r) / 4096=q:=by exact ω542 hr
 have e2:(q*4096+r) % 4096=r:=by exact ω543 e1
 show bb (eg (Int.ofNat ((q*4096+r) / 4096)) [4,2,6,1,10]) (bb (Nat.ble ((q*4096+r) % 4096) 511) (some (AV.str (tx ((q*4096+r) / 4096) ((q*4096+r) % 4096)))) none) none=_
 rw[e1,e2,aF (Nat.le_of_lt_succ hr)]
 have:eg (Int.ofNat q) [4,2,6,1,10]=true:=by
  simp only[List.mem_cons,bh,or_false]at hq
  rcases hq with rfl|rfl|rfl|rfl|rfl<;>rfl
 rw[this]
 rfl
theorem nV {G:Gd}{ps:PySem.Params}(H:Hd03 G ps):SC G (gz 2 fm) (.ref 188):=by
 refine ez (oK H) λ _ _ F hb=>?_
 refine qn (n:=6) F hb H.kt λ vs v h=>?_
 refine lC.elim h nzO λ x l z1 h=>lE.elim h nzO λ z2 h=>AV.i_elim h λ j z3 h=>?_
 rw[z1,z2,z3]
 cases j with
 |negSucc i=>cases h
 |ofNat i=>
  refine ay h λ h1 h2=>ay h2 λ h3 h4=>?_
  have hq:=d9.mp h1
  have hq:i / 4096∈[4,2,6,1,10]:=by
   simp only[List.mem_cons,bh,or_false]at hq ⊢
   exact hq.imp (λ h=>Int.ofNat.inj h) λ h=>h.imp (λ h=>Int.ofNat.inj h) λ h=>h.imp (λ h=>Int.ofNat.inj h) λ h=>h.imp (λ h=>Int.ofNat.inj h) λ h=>Int.ofNat.inj h
  have hr:i % 4096<512:=Nat.lt_succ_of_le (aO h3)
  have:=fm_ok hq hr
  have e:Nat.add (Nat.mul (i / 4096) 4096) (i % 4096)=i:=Nat.div_add_mod' i 4096
  unfold fmC at this
  rw[e]at this
  rw[← aj h4]
  exact⟨rfl,rfl,rfl,qq this⟩
theorem f8 {G:Gd}{ps:PySem.Params}(H:Hd03 G ps):SC G (gz 2 lv) (.ref 202):=by
 refine ez (ge H) λ _ _ F hb=>?_
 refine qn (n:=14) F hb H.kt λ vs v h=>?_
 unfold lv at h
 split at h
 ·rename_i hx
  refine eI hx λ m o p hm H hp z1_=>?_;clear hx;subst z1_
  cases h
  exact⟨rfl,rfl,rfl,qq (lv_ok hm H hp)⟩
 ·cases h
theorem td {G:Gd}{ps:PySem.Params}(H:Hd03 G ps):SCz G (zV 1 8 (sh 137 40)) (.ref 120):=by
 have hK:=H.K
 have:∃fd body,sg G b9 1 120 fd body/\wO G b9 (sh 137 40) body:=by
  refine⟨_,_,⟨⟨_,by rw[hK];rfl,rfl⟩,by rw[hK];rfl,rfl,rfl,rfl,(v1 (λ _=>rfl) λ _ _ _=>rfl),by decide,by decide,by decide,by decide,by decide,rfl,rfl,rfl⟩,?_⟩
  exact(pX (b6 (bj rfl (cQ (cH (H.ownA1)) (af rfl) (λ _=>rfl)) cM iI) (am d6 ax) ax) (pX (a_ (aV (λ _ _=>rfl) (aW rfl)) (cQ (cH (H.ownA0)) (af rfl) (λ _=>rfl)) (λ _ _=>⟨rfl,rfl⟩))
   (pY (xY (aW rfl) (af rfl) (pX (b6 (bj rfl (o7 rfl (dh o5 (af rfl) (aw (λ _ _=>rfl) (af rfl) aJ) (λ _ _=>rfl) (λ _ _=>rfl) (λ _=>rfl) rfl (λ _=>rfl))) cM iI) (am d6 ax) ax)
    (pX (a_ (aV (λ _ _=>rfl) (aW rfl)) (cQ (eL (H.slot1)) (af rfl) (λ _=>rfl)) (λ _ _=>⟨rfl,rfl⟩))
     (pY (xr (bj rfl (af rfl) (bQ (ac (i:=1) rfl) (by rw[hK];exact⟨_,rfl⟩)) (gy (λ _ _=>rfl)))
      (pY (xr (bj rfl (af rfl) ba (gy (λ _ _=>rfl))) (pY (sA (be (ac (i:=0) rfl) (by rw[hK];rfl) rfl (by decide)) (af rfl) (by decide) (by decide))) xq)) xq)))) (λ _ _=>rfl) (λ _ _=>rfl)))))
 refine ez this λ _ _ F hz=>?_
 exact te F hz
noncomputable def stM (g:RG)(enc:List AO)(fl:List AV):Option (List AO):=Op.b (g 4 true c_ (.ref 0::fl) enc) none λ r=>Op.b (fY 0 r.2) none λ z=>bb (bV 137 (.ref 0) z.2) (some z.2) none
noncomputable def adG:RG:=tz 2 6 bT
noncomputable def ppG:RG:=mH 1 2 bU
noncomputable def rU:List AO:=[.inst 137 1 [],.attrs 137 [some (.ref 2),some .none,some (.int 0),some (.int 0)] 4,.dict false [] 0]
noncomputable def adL (N:List (List Int)):Nat->List AO->Option (List AO):=List.rec (motive:=λ _=>Nat->List AO->Option (List AO)) (λ _ e=>some e) (λ n _ ih k e=>Op.b (stM adG e (.int (Int.ofNat k)::n.map .int)) none λ e=>ih (Nat.succ k) e) N
noncomputable def mc (a b:AV):Bool:=AV.rec (motive:=λ _=>Bool)
 (AV.rec (motive:=λ _=>Bool) true (λ _=>false) (λ _=>false) (λ _=>false) (λ _=>false) (λ _=>false) b)
 (λ _=>false)
 (λ i=>AV.rec (motive:=λ _=>Bool) false (λ _=>false) (λ j=>i == j) (λ _=>false) (λ _=>false) (λ _=>false) b)
 (λ _=>false)
 (λ i=>AV.rec (motive:=λ _=>Bool) false (λ _=>false) (λ _=>false) (λ _=>false) (λ j=>Nat.beq i j) (λ _=>false) b)
 (λ _=>false) a
theorem hS {a b:AV}(h:mc a b=true):a=b:=by
 cases a<;>cases b<;>first|rfl|(cases h;done)|(rw[eq_of_beq (show(_ == _)=true from h)])|(rw[aE (show Nat.beq _ _=true from h)])
noncomputable def lB {α:Type}(f:α->α->Bool)(a:List α):List α->Bool:=List.rec (motive:=λ _=>List α->Bool) (λ b=>List.rec (motive:=λ _=>Bool) true (λ _ _ _=>false) b) (λ x _ ih b=>List.rec (motive:=λ _=>Bool) false (λ y b _=>bb (f x y) (ih b) false) b) a
theorem lT {α:Type}{f:α->α->Bool}(hf:∀{x y:α},f x y=true->x=y):∀{a b:List α},lB f a b=true->a=b
 |[],[],_=>rfl
 |[],_::_,h=>by cases h
 |_::_,[],h=>by cases h
 |x::a,y::b,h=>by
  refine ay (show bb (f x y) (lB f a b) false=true from h) λ h1 h2=>?_
  rw[hf h1,lT hf h2]
noncomputable def oB' (a b:Option AV):Bool:=Option.rec (motive:=λ _=>Bool) (Option.rec (motive:=λ _=>Bool) true (λ _=>false) b) (λ x=>Option.rec (motive:=λ _=>Bool) false (λ y=>mc x y) b) a
theorem tL {a b:Option AV}(h:oB' a b=true):a=b:=by
 cases a<;>cases b<;>first|rfl|(cases h;done)|(rw[hS (show mc _ _=true from h)])
noncomputable def pB (a b:AV×AV):Bool:=bb (mc a.1 b.1) (mc a.2 b.2) false
theorem pB_ok {a b:AV×AV}(h:pB a b=true):a=b:=by
 refine ay (show bb (mc a.1 b.1) (mc a.2 b.2) false=true from h) λ h1 h2=>?_
 exact Prod.ext (hS h1) (hS h2)
noncomputable def aoB (a b:AO):Bool:=AO.casesOn (motive:=λ _=>Bool) a false (λ x=>Op.b b.gL false λ y=>lB mc x y) (λ _=>false) (λ _ _ _=>false) (λ _=>false) (λ kd x m=>bb kd false (Op.b b.gD false λ q=>bb q.1 false (bb (lB pB x q.2.1) (Nat.beq m q.2.2) false))) (λ _ _=>false) (λ C i x=>Op.b b.gI false λ q=>bb (Nat.beq C q.1) (bb (Nat.beq i q.2.1) (lB oB' x q.2.2) false) false) (λ C x m=>Op.b b.gA false λ q=>bb (Nat.beq C q.1) (bb (Nat.beq m q.2.2) (lB oB' x q.2.1) false) false) (λ _ _=>false) (λ _=>false) (λ _=>false)
theorem wJ {b t:Bool}(h:bb b false t=true):b=false/\t=true:=by
 cases b with
 |true=>cases h
 |false=>exact⟨rfl,h⟩
theorem zw {a b:AO}(h:aoB a b=true):a=b:=by
 cases a with
 |list x=>exact Op.elim h λ y e h=>(congrArg AO.list (lT hS h)).trans (AO.gL_ok e).symm
 |dict kd x m=>exact Op.elim (wJ h).2 λ q e h'=>ay (wJ h').2 λ h1 h2=>by rw[AO.gD_ok e,(wJ h).1,(wJ h').1,lT pB_ok h1,aE h2]
 |inst C i x=>exact Op.elim h λ q e h=>ay h λ h1 h=>ay h λ h2 h=>by rw[AO.gI_ok e,show C=q.1 from aE h1,aE h2,lT tL h]
 |attrs C x m=>exact Op.elim h λ q e h=>ay h λ h1 h=>ay h λ h2 h=>by rw[AO.gA_ok e,aE h1,aE h2,lT tL h]
 |_=>cases h
noncomputable def js (p:Int->Bool)(l:List Int):List Int:=List.rec (motive:=λ _=>List Int) [] (λ a _ ih=>bb (p a) (a::ih) ih) l
theorem fS (p:Int->Bool):∀l:List Int,js p l=l.filter p
 |[]=>rfl
 |a::l=>by
  show bb (p a) (a::js p l) (js p l)=_
  rw[fS p l]
  cases q:p a with
  |true=>rw[List.filter_cons_of_pos q];rfl
  |false=>rw[List.filter_cons_of_neg (by rw[q];nofun)];rfl
noncomputable def cz (m:Nat):List Int:=bb (Nat.beq m 4) R4 R5
noncomputable def dw (N:List (List Int))(k:Int):List Int:=Op.b (cy N k.toNat) [] id
noncomputable def npN (m:Nat)(N:List (List Int)):List Int:=(cz m).map λ k=>((dw N k).length:Int)
noncomputable def fE (m:Nat)(N:List (List Int)):List (List Int):=(cz m).map λ k=>js (λ s=>eg k (dw N s)) (cz m)
noncomputable def nilB (l:List Int):Bool:=List.rec (motive:=λ _=>Bool) true (λ _ _ _=>false) l
noncomputable def S0 (m:Nat)(N:List (List Int)):fb:=⟨npN m N,js (λ k=>nilB (dw N k)) (cz m),0,0,5⟩
noncomputable def uy (m:Nat)(N:List (List Int)):Bool:=Op.b (Op.b (adL N 0 rU) none λ e=>stM ppG e []) false λ e=>lB aoB e (bY 137 40 m (cz m) (fE m N) (S0 m N))
noncomputable def gJ (l:List Int):List (List Int):=List.rec (motive:=λ _=>List (List Int)) [[]] (λ a _ ih=>ih.map (a::·)++ih) l
theorem jh (p:Int->Bool):∀l:List Int,l.filter p∈gJ l
 |[]=>.head _
 |a::l=>by
  show _∈(gJ l).map (a::·)++gJ l
  cases q:p a with
  |true=>rw[List.filter_cons_of_pos q];exact List.mem_append_left _ (List.mem_map_of_mem (jh p l))
  |false=>rw[List.filter_cons_of_neg (by rw[q];nofun)];exact List.mem_append_right _ (jh p l)
noncomputable def okC (c:List Int):Bool:=iu (λ b=>iu (λ a=>uy 4 [[],a,b,c]) (gJ [0])) (gJ [0,1])
noncomputable def gW (d:List Int):Bool:=iu (λ c=>iu (λ b=>iu (λ a=>uy 5 [[],a,b,c,d]) (gJ [0])) (gJ [0,1])) (gJ [0,1,2])
theorem iW {G:Gd}{ps:PySem.Params}(H:Hd03 G ps):SC G (cm 1 1 bx) (.ref 106):=by
 obtain⟨_,_,F,hb⟩:=eC H
 exact gO F hb
noncomputable def jc:Nm:=⟨["needs","sorter","k"],["TopologicalSorter","range","len"],true⟩
noncomputable def c0:SF:=ao (bv (gV 1) (jv (oH 137 4 0 1 4 [.none] bf))) (ao (dM 64 (gV 2) (aP bH (aq (aP dJ (aq (cV 0) (aI))) (aI))) (ao (cu (ir 137 (fK 4 c_ fJ (tz 2 6 bT)) (cV 1) (aq (cV 2) (n8 (bN (cV 0) (cV 2)) (aI))))) (aC)) (aC)) (ao (cu (dZ 137 (fK 4 c_ fJ (mH 1 2 bU)) (cV 1))) (ao (cE (cV 1)) (aC))))
theorem lG {G:Gd}{ps:PySem.Params}(H:Hd03 G ps):∃fd body,eQ G jc 1 209 fd body/\fw G jc c0 body:=by
 have hK:=H.K
 refine⟨_,_,⟨⟨⟨_,by rw[hK];rfl,rfl⟩,by rw[hK];rfl,rfl,rfl,rfl,by decide,by decide,by decide,by decide,by decide,rfl,rfl,rfl⟩,(l1 λ _=>rfl)⟩,?_⟩
 exact(am (a_ (aV (λ _ _=>rfl) (aW rfl)) (nT (gE H) (c9 (ac (i:=0) rfl) (by rw[hK];rfl)) (jP (by rw[hK];rfl))) (λ _ _=>⟨rfl,rfl⟩)) (am (eU (aW rfl) (aX dz (be (ac (i:=1) rfl) (by rw[hK];rfl) rfl (by decide)) cN (aw (λ _ _=>rfl) (aX di (be (ac (i:=2) rfl) (by rw[hK];rfl) rfl (by decide)) bm (aw (λ _ _=>rfl) (af rfl) aJ) (λ _ _=>rfl) (λ _ _=>rfl)) aJ) (λ _ _=>rfl) (λ _ _=>rfl)) (am (dg (vE H.b_add (ib H.kt (f0 H)) (af rfl) (aw (λ _ _=>rfl) (af rfl) (vy (cq (af rfl) (af rfl)) aJ)) (λ _ _=>rfl) (λ _ _=>rfl) (λ _=>rfl)) (λ _ _=>rfl)) ax) ax (λ _ _=>rfl) (λ _ _=>rfl)) (am (dg (h_ H.m_prepare (ib H.kt (eY H)).sc (af rfl) (λ _=>⟨_,rfl⟩)) (λ _ _=>rfl)) (am (b_ (af rfl)) ax))))
theorem iz {G:Gd}{ps:PySem.Params}(H:Hd03 G ps):SC G (cm 1 3 c0) (.ref 209):=by
 obtain⟨_,_,F,hb⟩:=lG H
 exact gO F hb
noncomputable def jL:Nm:=⟨["needs","numbers","sorter","order","waiting","k"],["_law_sorter","range","len"],true⟩
noncomputable def eR (tb:Tb):SF:=ao (bv (gV 2) (aP (cm 1 3 c0) (aq (cV 0) (aI)))) (ao (bv (gV 3) (dj (aI))) (ao (bv (gV 4) (dj (aI))) (ao (dM 64 (gV 5) (aP bH (aq (aP dJ (aq (cV 0) (aI))) (aI))) (ao (cu (cc .list i5 (cV 4) (aq (dZ 137 (fK 4 c_ fJ (mH 1 4 bB)) (cV 2)) (aI)))) (ao (dL (p7 (lb false (cV 4) (dj (aI))) (p7 (lx (tE (dZ 137 (cm 1 1 bx) (cV 2)))) (gH))) (ao (cE (dj (aI))) (aC)) (aC)) (ao (cu (cc .list cD (cV 3) (aq (cc .list gi (cV 4) (aq (hO tb (bN (cV 1) (cV 5)) (aP dJ (aq (cV 4) (aI)))) (aI))) (aI)))) (ao (cu (ir 137 (fK 4 c_ fJ (tz 1 8 bS)) (cV 2) (aq (bN (cV 3) (nz (cC (.int 1)))) (aI)))) (aC))))) (aC)) (ao (cE (cV 3)) (aC)))))
theorem nG {G:Gd}{ps:PySem.Params}{tb:Tb}(H:Hd03 G ps)(Htb:lH G tb):∃fd body,eQ G jL 2 216 fd body/\fw G jL (eR tb) body:=by
 have hK:=H.K
 refine⟨_,_,⟨⟨⟨_,by rw[hK];rfl,rfl⟩,by rw[hK];rfl,rfl,rfl,rfl,by decide,by decide,by decide,by decide,by decide,rfl,rfl,rfl⟩,(l2 λ _ _=>rfl)⟩,?_⟩
 exact(am (a_ (aV (λ _ _=>rfl) (aW rfl)) (aX (iz H) (c9 (ac (i:=0) rfl) (by rw[hK];rfl)) (jP (by rw[hK];rfl)) (aw (λ _ _=>rfl) (af rfl) aJ) (λ _ _=>rfl) (λ _ _=>rfl)) (λ _ _=>⟨rfl,rfl⟩)) (am (a_ (aV (λ _ _=>rfl) (aW rfl)) (cw aJ) (λ _ _=>⟨rfl,rfl⟩)) (am (a_ (aV (λ _ _=>rfl) (aW rfl)) (cw aJ) (λ _ _=>⟨rfl,rfl⟩)) (am (eU (aW rfl) (aX dz (be (ac (i:=1) rfl) (by rw[hK];rfl) rfl (by decide)) cN (aw (λ _ _=>rfl) (aX di (be (ac (i:=2) rfl) (by rw[hK];rfl) rfl (by decide)) bm (aw (λ _ _=>rfl) (af rfl) aJ) (λ _ _=>rfl) (λ _ _=>rfl)) aJ) (λ _ _=>rfl) (λ _ _=>rfl)) (am (dg (dh rF (af rfl) (aw (λ _ _=>rfl) (h_ H.m_get_ready (ib H.kt (cR H)).sc (af rfl) (λ _=>⟨_,rfl⟩)) aJ) (λ _ _=>rfl) (λ _ _=>rfl) (λ _=>rfl) rfl (λ _=>rfl)) (λ _ _=>rfl)) (am (b6 (iT (bj rfl (af rfl) (cw aJ) mZ) (iT (mt (jj (h_ H.m_is_active (iW H) (af rfl) (λ _=>⟨_,rfl⟩)) (λ _ _=>rfl))) mr)) (am (b_ (cw aJ)) ax) ax) (am (dg (dh dC (af rfl) (aw (λ _ _=>rfl) (dh sW (af rfl) (aw (λ _ _=>rfl) (qj Htb (cq (af rfl) (af rfl)) (aX di (be (ac (i:=2) rfl) (by rw[hK];rfl) rfl (by decide)) bm (aw (λ _ _=>rfl) (af rfl) aJ) (λ _ _=>rfl) (λ _ _=>rfl))) aJ) (λ _ _=>rfl) (λ _ _=>rfl) (λ _=>rfl) rfl (λ _=>rfl)) aJ) (λ _ _=>rfl) (λ _ _=>rfl) (λ _=>rfl) rfl (λ _=>rfl)) (λ _ _=>rfl)) (am (dg (mB H.m_done (ib H.kt (dH H)).sc (af rfl) (aw (λ _ _=>rfl) (cq (af rfl) (o8 ba)) aJ) (λ _ _=>rfl) (λ _ _=>rfl) (λ _=>⟨_,rfl⟩)) (λ _ _=>rfl)) ax)))) ax (λ _ _=>rfl) (λ _ _=>rfl)) (am (b_ (af rfl)) ax)))))
theorem mF {G:Gd}{ps:PySem.Params}{tb:Tb}(H:Hd03 G ps)(Htb:lH G tb):SC G (cm 2 6 (eR tb)) (.ref 216):=by
 obtain⟨_,_,F,hb⟩:=nG H Htb
 exact gO F hb
noncomputable def mh:Nm:=⟨["needs","order","sorter","k"],["_law_sorter","ValueError"],true⟩
noncomputable def eF:SF:=ao (bv (gV 2) (aP (cm 1 3 c0) (aq (cV 0) (aI)))) (ao (dM 64 (gV 3) (cV 1) (ao (cu (dZ 137 (fK 4 c_ fJ (mH 1 4 bB)) (cV 2))) (ao (jD (cu (ir 137 (fK 4 c_ fJ (tz 1 8 bS)) (cV 2) (aq (cV 3) (aI)))) (oU 137 (zV 1 8 (sh 137 40)) (cV 2) (aq (cV 3) (aI))) (ao (cE (cC (.bool false))) (aC))) (aC))) (aC)) (ao (cE (q0 (tE (dZ 137 (cm 1 1 bx) (cV 2))))) (aC)))
theorem pS {G:Gd}{ps:PySem.Params}(H:Hd03 G ps):∃fd body,eQ G mh 2 223 fd body/\fw G mh eF body:=by
 have hK:=H.K
 refine⟨_,_,⟨⟨⟨_,by rw[hK];rfl,rfl⟩,by rw[hK];rfl,rfl,rfl,rfl,by decide,by decide,by decide,by decide,by decide,rfl,rfl,rfl⟩,(l2 λ _ _=>rfl)⟩,?_⟩
 exact(am (a_ (aV (λ _ _=>rfl) (aW rfl)) (aX (iz H) (c9 (ac (i:=0) rfl) (by rw[hK];rfl)) (jP (by rw[hK];rfl)) (aw (λ _ _=>rfl) (af rfl) aJ) (λ _ _=>rfl) (λ _ _=>rfl)) (λ _ _=>⟨rfl,rfl⟩)) (am (eU (aW rfl) (af rfl) (am (dg (h_ H.m_get_ready (ib H.kt (cR H)).sc (af rfl) (λ _=>⟨_,rfl⟩)) (λ _ _=>rfl)) (am (vr rfl (be (ac (i:=1) rfl) (by rw[hK];rfl) rfl (by decide)) (dg (mB H.m_done (ib H.kt (dH H)).sc (af rfl) (aw (λ _ _=>rfl) (af rfl) aJ) (λ _ _=>rfl) (λ _ _=>rfl) (λ _=>⟨_,rfl⟩)) (λ _ _=>rfl)) (xZ H.m_done (td H) (af rfl) (aw (λ _ _=>rfl) (af rfl) aJ) (λ _ _=>rfl) (λ _ _=>rfl) (λ _=>⟨_,rfl⟩)) (λ _ _=>rfl) (am (b_ mD) ax)) ax)) ax (λ _ _=>rfl) (λ _ _=>rfl)) (am (b_ (vF (h_ H.m_is_active (iW H) (af rfl) (λ _=>⟨_,rfl⟩)))) ax)))
theorem o9 {G:Gd}{ps:PySem.Params}(H:Hd03 G ps):SC G (cm 2 4 eF) (.ref 223):=by
 obtain⟨_,_,F,hb⟩:=pS H
 exact gO F hb
noncomputable def gB:Nm:=⟨["needs","signs","order","last","place","turned","words"],["range","len","_law_let","_levenshtein_distance"],true⟩
noncomputable def NC2:Nm:=⟨[Str.ofString ".0",Str.ofString "row",Str.ofString "signs"],[],false⟩
noncomputable def NC3:Nm:=⟨[Str.ofString ".0",Str.ofString "k",Str.ofString "signs"],[],false⟩
noncomputable def cA:SF:=ao (dM 64 (gV 3) (aP bH (aq (eS eW (aP dJ (aq (cV 2) (aI))) (cC (.int 1))) (aq (cC (.int 0)) (aq (nz (cC (.int 1))) (aI))))) (ao (dM 64 (gV 4) (aP bH (aq (cV 3) (aI))) (ao (bv (gV 5) (jR (jR (f6 (cV 2) (cC .none) (cV 4)) (dj (aq (bN (cV 2) (eS dN (cV 4) (cC (.int 1)))) (aq (bN (cV 2) (cV 4)) (aI))))) (f6 (cV 2) (eS dN (cV 4) (cC (.int 2))) (cC .none)))) (ao (dL (tE (aP (cm 2 4 eF) (aq (cV 0) (aq (cV 5) (aI))))) (ao (bv (gV 6) (dq 64 3 0 [.loc,.loc,.old 1] (dj (aq (cV 2) (aq (cV 5) (aI)))) (gV 1) (c8) [] (cc .str jF (cC (.str [])) (aq (dq 64 3 0 [.loc,.loc,.old 2] (cV 1) (gV 1) (c8) [] (bN (cV 2) (cV 1))) (aI))))) (ao (dL (cK (λ a b=>a != b) (aP (gz 2 lv) (aq (bN (cV 6) (cC (.int 0))) (aq (bN (cV 6) (cC (.int 1))) (aq (cC (.int 9)) (aI))))) (cC (.int 4))) (ao (cE (dj (aI))) (aC)) (aC)) (ao (bv (gV 2) (cV 5)) (aC)))) (ao (dL (nA true (bN (cV 2) (cV 4)) (bN (cV 0) (bN (cV 2) (eS dN (cV 4) (cC (.int 1)))))) (ao (cE (dj (aI))) (aC)) (aC)) (aC))) (aC))) (aC)) (aC)) (aC)) (ao (cE (cV 2)) (aC))
theorem jx {G:Gd}{ps:PySem.Params}(H:Hd03 G ps):∃fd body,wR G gB 3 [.loc,.new 0,.loc,.loc,.loc,.loc,.loc] 1 228 fd body/\fw G gB cA body:=by
 have hK:=H.K
 refine⟨_,_,⟨⟨_,by rw[hK];rfl,rfl⟩,by rw[hK];rfl,rfl,rfl,rfl,rfl,(l3 λ _ _ _=>rfl),by decide,by decide,by decide,rfl,by decide,rfl,by decide,by decide,rfl,rfl,rfl⟩,?_⟩
 exact(am (eU (aW rfl) (aX dz (be (ac (i:=0) rfl) (by rw[hK];rfl) rfl (by decide)) cN (aw (λ _ _=>rfl) (dy jq (aX di (be (ac (i:=1) rfl) (by rw[hK];rfl) rfl (by decide)) bm (aw (λ _ _=>rfl) (af rfl) aJ) (λ _ _=>rfl) (λ _ _=>rfl)) ba) (aw (λ _ _=>rfl) ba (aw (λ _ _=>rfl) (o8 ba) aJ))) (λ _ _=>rfl) (λ _ _=>rfl)) (am (eU (aW rfl) (aX dz (be (ac (i:=0) rfl) (by rw[hK];rfl) rfl (by decide)) cN (aw (λ _ _=>rfl) (af rfl) aJ) (λ _ _=>rfl) (λ _ _=>rfl)) (am (a_ (aV (λ _ _=>rfl) (aW rfl)) (kg (kg (eu (af rfl) dl (cL (af rfl))) (cw (aw (λ _ _=>rfl) (cq (af rfl) (dy fB (af rfl) ba)) (aw (λ _ _=>rfl) (cq (af rfl) (af rfl)) aJ)))) (eu (af rfl) (cL (dy fB (af rfl) ba)) dl)) (λ _ _=>⟨rfl,rfl⟩)) (am (b6 (jj (aX (o9 H) (c9 (ac (i:=2) rfl) (by rw[hK];rfl)) (jP (by rw[hK];rfl)) (aw (λ _ _=>rfl) (af rfl) (aw (λ _ _=>rfl) (af rfl) aJ)) (λ _ _=>rfl) (λ _ _=>rfl)) (λ _ _=>rfl)) (am (mw rfl (N':=NC2) ⟨rfl,rfl,by decide,by decide,by decide,rfl,by decide,by decide,rfl,by decide,by decide⟩ (cw (aw (λ _ _=>rfl) (af rfl) (aw (λ _ _=>rfl) (af rfl) aJ))) (aW rfl) h9 rfl (λ _ _=>rfl) (λ _ _=>rfl) .nil (dh qb (mA rfl) (aw (λ _ _=>rfl) (iV (N':=NC3) ⟨rfl,rfl,by decide,by decide,by decide,rfl,by decide,by decide,rfl,by decide,by decide⟩ (af rfl) (aW rfl) h9 rfl (λ _ _=>rfl) (λ _ _=>rfl) .nil (cq (af rfl) (af rfl))) aJ) (λ _ _=>rfl) (λ _ _=>rfl) (λ _=>rfl) rfl (λ _=>rfl))) (am (b6 (bj rfl (aX (f8 H) (c9 (ac (i:=3) rfl) (by rw[hK];rfl)) (jP (by rw[hK];rfl)) (aw (λ _ _=>rfl) (cq (af rfl) ba) (aw (λ _ _=>rfl) (cq (af rfl) ba) (aw (λ _ _=>rfl) ba aJ))) (λ _ _=>rfl) (λ _ _=>rfl)) ba (gy (λ _ _=>rfl))) (am (b_ (cw aJ)) ax) ax) (am (a_ (aV (λ _ _=>rfl) (aW rfl)) (af rfl) (λ _ _=>⟨rfl,rfl⟩)) ax))) (am (b6 (bj rfl (cq (af rfl) (af rfl)) (cq (af rfl) (cq (af rfl) (dy fB (af rfl) ba))) v9) (am (b_ (cw aJ)) ax) ax) ax)) ax)) ax (λ _ _=>rfl) (λ _ _=>rfl)) ax) ax (λ _ _=>rfl) (λ _ _=>rfl)) (am (b_ (af rfl)) ax))
theorem f9 {G:Gd}{ps:PySem.Params}(H:Hd03 G ps):SC G (k8 3 [.loc,.new 0,.loc,.loc,.loc,.loc,.loc] 1 7 cA) (.ref 228):=by
 obtain⟨_,_,F,hb⟩:=jx H
 exact vJ F hb
noncomputable def xT:Nm:=⟨["script","many","numbers","needs","order","kinds","signs","once"],["len","range","_law_order","S_IFDIR","S_IFCHR","S_IFBLK","S_IFIFO","S_IFLNK","_law_evacuated","all"],true⟩
noncomputable def NC4:Nm:=⟨[Str.ofString ".0",Str.ofString "k",Str.ofString "numbers"],[Str.ofString "range"],false⟩
noncomputable def NC5:Nm:=⟨[Str.ofString ".0",Str.ofString "j",Str.ofString "k",Str.ofString "numbers"],[],false⟩
noncomputable def NC6:Nm:=⟨[Str.ofString ".0",Str.ofString "k",Str.ofString "kinds",Str.ofString "numbers"],[Str.ofString "filemode"],false⟩
noncomputable def NC7:Nm:=⟨[Str.ofString ".0",Str.ofString "k",Str.ofString "j",Str.ofString "needs",Str.ofString "once"],[],false⟩
noncomputable def re (tb:Tb):SF:=ao (bv (gV 1) (uU (uV tb (aP (jK tb) (aq (cV 0) (aI))) (cC (.int 4))) (cC (.int 5)) (cC (.int 4)))) (ao (bv (gV 2) (jR (k_ tb (cV 0) (cC .none) (cC (.int 4))) (k9 tb (dj (aq (cC (.int 1)) (aq (cC (.int 1)) (aq (cC (.int 4)) (aq (cC (.int 9)) (aI)))))) (aP (jK tb) (aq (cV 0) (aI)))))) (ao (bv (gV 3) (dq 64 3 1 [.loc,.new 0,.old 2] (aP bH (aq (cV 1) (aI))) (gV 1) (c8) [] (dq 64 4 0 [.loc,.loc,.old 1,.old 2] (aP bH (aq (cV 1) (aI))) (gV 1) (tE (jJ tb (bN (cV 3) (eS eW (cV 2) (cC (.int 1)))) (cV 1))) [] (cV 1)))) (ao (bv (gV 4) (aP (cm 2 6 (eR tb)) (aq (cV 3) (aq (jR (k_ tb (cV 0) (cC (.int 4)) (cC (.int 9))) (dj (aq (cC (.int 0)) (aq (cC (.int 0)) (aq (cC (.int 0)) (aq (cC (.int 0)) (aq (cC (.int 0)) (aI)))))))) (aI))))) (ao (bv (gV 5) (dj (aq (cC (.int 16384)) (aq (cC (.int 8192)) (aq (cC (.int 24576)) (aq (cC (.int 4096)) (aq (cC (.int 40960)) (aI)))))))) (ao (bv (gV 6) (dq 64 4 0 [.loc,.loc,.old 5,.old 2] (aP bH (aq (cV 1) (aI))) (gV 1) (c8) [] (bN (aP (gz 2 fm) (aq (eS dN (bN (cV 2) (cV 1)) (hO tb (bN (cV 3) (eS eW (cV 1) (cC (.int 1)))) (cC (.int 512)))) (aI))) (cC (.int 0))))) (ao (bv (gV 7) (aP (k8 3 [.loc,.new 0,.loc,.loc,.loc,.loc,.loc] 1 7 cA) (aq (cV 3) (aq (cV 6) (aq (cV 4) (aI)))))) (ao (dL (p7 (lb false (cV 4) (dj (aI))) (p7 (lb false (cV 7) (dj (aI))) (p7 (lx (tE (aP pQ (aq (dq 64 5 0 [.loc,.loc,.loc,.old 3,.old 7] (aP bH (aq (cV 1) (aI))) (gV 1) (c8) (⟨gV 2,bN (cV 3) (cV 1),c8⟩::[]) (cT (nA false (cV 2) (f6 (cV 4) (cC .none) (cc .list jo (cV 4) (aq (cV 1) (aI))))))) (aI))))) (gH)))) (ao (cE (cC (.bool false))) (aC)) (aC)) (ao (cE (cT (lb false (aP (k8 3 [.loc,.new 0,.loc,.loc,.loc,.loc,.loc] 1 7 cA) (aq (cV 3) (aq (cV 6) (aq (cV 7) (aI))))) (cV 4)))) (aC)))))))))
theorem zt {G:Gd}{ps:PySem.Params}{tb:Tb}(H:Hd03 G ps)(Htb:lH G tb):∃fd body,wR G xT 1 [.loc,.loc,.new 0,.new 1,.loc,.new 2,.loc,.new 3] 4 233 fd body/\fw G xT (re tb) body:=by
 have hK:=H.K
 refine⟨_,_,⟨⟨_,by rw[hK];rfl,rfl⟩,by rw[hK];rfl,rfl,rfl,rfl,rfl,(l1 λ _=>rfl),by decide,by decide,by decide,rfl,by decide,rfl,by decide,by decide,rfl,rfl,rfl⟩,?_⟩
 exact(am (a_ (aV (λ _ _=>rfl) (aW rfl)) (yi (bj rfl (aX (qo Htb) (be (ac (i:=0) rfl) (by rw[hK];rfl) rfl (by decide)) bm (aw (λ _ _=>rfl) (af rfl) aJ) (λ _ _=>rfl) (λ _ _=>rfl)) ba (yN Htb)) ba ba) (λ _ _=>⟨rfl,rfl⟩)) (am (a_ (aV (λ _ _=>rfl) (aW rfl)) (kg (qi Htb (af rfl) dl (cL ba)) (vD Htb (cw (aw (λ _ _=>rfl) ba (aw (λ _ _=>rfl) ba (aw (λ _ _=>rfl) ba (aw (λ _ _=>rfl) ba aJ))))) (aX (qo Htb) (be (ac (i:=0) rfl) (by rw[hK];rfl) rfl (by decide)) bm (aw (λ _ _=>rfl) (af rfl) aJ) (λ _ _=>rfl) (λ _ _=>rfl)))) (λ _ _=>⟨rfl,rfl⟩)) (am (mw rfl (N':=NC4) ⟨rfl,rfl,by decide,by decide,by decide,rfl,by decide,by decide,rfl,by decide,by decide⟩ (aX dz (be (ac (i:=1) rfl) (by rw[hK];rfl) rfl (by decide)) cN (aw (λ _ _=>rfl) (af rfl) aJ) (λ _ _=>rfl) (λ _ _=>rfl)) (aW rfl) h9 rfl (λ _ _=>rfl) (λ _ _=>rfl) .nil (iV (N':=NC5) ⟨rfl,rfl,by decide,by decide,by decide,rfl,by decide,by decide,rfl,by decide,by decide⟩ (aX dz (be (ac (i:=0) rfl) (by rw[hK];rfl) rfl (by decide)) cN (aw (λ _ _=>rfl) (af rfl) aJ) (λ _ _=>rfl) (λ _ _=>rfl)) (aW rfl) (p9 (jj (vG Htb (cq (af rfl) (dy jq (af rfl) ba)) (af rfl)) (λ _ _=>rfl))) rfl (λ _ _=>rfl) (λ _ _=>rfl) .nil (af rfl))) (am (a_ (aV (λ _ _=>rfl) (aW rfl)) (aX (mF H Htb) (c9 (ac (i:=2) rfl) (by rw[hK];rfl)) (jP (by rw[hK];rfl)) (aw (λ _ _=>rfl) (af rfl) (aw (λ _ _=>rfl) (kg (qi Htb (af rfl) (cL ba) (cL ba)) (cw (aw (λ _ _=>rfl) ba (aw (λ _ _=>rfl) ba (aw (λ _ _=>rfl) ba (aw (λ _ _=>rfl) ba (aw (λ _ _=>rfl) ba aJ))))))) aJ)) (λ _ _=>rfl) (λ _ _=>rfl)) (λ _ _=>⟨rfl,rfl⟩)) (am (a_ (aV (λ _ _=>rfl) (aW rfl)) (cw (aw (λ _ _=>rfl) (bQ (ac (i:=3) rfl) (by rw[hK];exact⟨_,rfl⟩)) (aw (λ _ _=>rfl) (bQ (ac (i:=4) rfl) (by rw[hK];exact⟨_,rfl⟩)) (aw (λ _ _=>rfl) (bQ (ac (i:=5) rfl) (by rw[hK];exact⟨_,rfl⟩)) (aw (λ _ _=>rfl) (bQ (ac (i:=6) rfl) (by rw[hK];exact⟨_,rfl⟩)) (aw (λ _ _=>rfl) (bQ (ac (i:=7) rfl) (by rw[hK];exact⟨_,rfl⟩)) aJ)))))) (λ _ _=>⟨rfl,rfl⟩)) (am (mw rfl (N':=NC6) ⟨rfl,rfl,by decide,by decide,by decide,rfl,by decide,by decide,rfl,by decide,by decide⟩ (aX dz (be (ac (i:=1) rfl) (by rw[hK];rfl) rfl (by decide)) cN (aw (λ _ _=>rfl) (af rfl) aJ) (λ _ _=>rfl) (λ _ _=>rfl)) (aW rfl) h9 rfl (λ _ _=>rfl) (λ _ _=>rfl) .nil (cq (aX (nV H) (c9 (ac (i:=0) rfl) (by rw[hK];rfl)) (jP (by rw[hK];rfl)) (aw (λ _ _=>rfl) (dy fB (cq (af rfl) (af rfl)) (qj Htb (cq (af rfl) (dy jq (af rfl) ba)) ba)) aJ) (λ _ _=>rfl) (λ _ _=>rfl)) ba)) (am (a_ (aV (λ _ _=>rfl) (aW rfl)) (aX (f9 H) (c9 (ac (i:=8) rfl) (by rw[hK];rfl)) (jP (by rw[hK];rfl)) (aw (λ _ _=>rfl) (af rfl) (aw (λ _ _=>rfl) (af rfl) (aw (λ _ _=>rfl) (af rfl) aJ))) (λ _ _=>rfl) (λ _ _=>rfl)) (λ _ _=>⟨rfl,rfl⟩)) (am (b6 (iT (bj rfl (af rfl) (cw aJ) mZ) (iT (bj rfl (af rfl) (cw aJ) mZ) (iT (mt (jj (aX yk (be (ac (i:=9) rfl) (by rw[hK];rfl) rfl (by decide)) bm (aw (λ _ _=>rfl) (iV (N':=NC7) ⟨rfl,rfl,by decide,by decide,by decide,rfl,by decide,by decide,rfl,by decide,by decide⟩ (aX dz (be (ac (i:=1) rfl) (by rw[hK];rfl) rfl (by decide)) cN (aw (λ _ _=>rfl) (af rfl) aJ) (λ _ _=>rfl) (λ _ _=>rfl)) (aW rfl) h9 rfl (λ _ _=>rfl) (λ _ _=>rfl) (.cons ⟨(aW rfl),(cq (af rfl) (af rfl)),h9,rfl,(λ _ _=>rfl),(λ _ _=>rfl)⟩ .nil) (mC rfl (af rfl) (eu (af rfl) dl (cL (dh sY (af rfl) (aw (λ _ _=>rfl) (af rfl) aJ) (λ _ _=>rfl) (λ _ _=>rfl) (λ _=>rfl) rfl (λ _=>rfl)))) yL)) aJ) (λ _ _=>rfl) (λ _ _=>rfl)) (λ _ _=>rfl))) mr))) (am (b_ mD) ax) ax) (am (b_ (mC rfl (aX (f9 H) (c9 (ac (i:=8) rfl) (by rw[hK];rfl)) (jP (by rw[hK];rfl)) (aw (λ _ _=>rfl) (af rfl) (aw (λ _ _=>rfl) (af rfl) (aw (λ _ _=>rfl) (af rfl) aJ))) (λ _ _=>rfl) (λ _ _=>rfl)) (af rfl) mZ)) ax)))))))))
noncomputable def qY (dn:List Int)(l:List Int):Nat:=List.rec (motive:=λ _=>Nat) 0 (λ j _ ih=>(if j∈dn then 0 else 1)+ih) l
theorem hG (dn:List Int)(j:Int)(l:List Int):qY dn (j::l)=(if j∈dn then 0 else 1)+qY dn l:=rfl
theorem fk {dn:List Int}:∀{l:List Int},qY dn l=0↔∀j∈l,j∈dn
 |[]=>⟨λ _ j h=>(by cases h),λ _=>rfl⟩
 |a::l=>by
  rw[hG,List.forall_mem_cons,← fk (l:=l)]
  by_cases h:a∈dn
  ·rw[if_pos h,Nat.zero_add];exact⟨λ z=>⟨h,z⟩,λ z=>z.2⟩
  ·rw[if_neg h];exact⟨λ z=>by exact(xa z).elim,λ z=>absurd z.1 h⟩
theorem nt {dn:List Int}{k:Int}(hk:k∉dn):∀{l:List Int},l.Nodup->qY (dn++[k]) l+(if k∈l then 1 else 0)=qY dn l
 |[],_=>rfl
 |a::l,h=>by
  rw[List.nodup_cons]at h
  have ih:=nt hk h.2
  rw[hG,hG]
  by_cases e:a=k
  ·subst e
   have h1:a∈dn++[a]:=by simp
   rw[if_pos h1,if_neg hk,if_pos aT,Nat.zero_add]
   rw[if_neg h.1]at ih
   exact ω444 ih
  ·have h1:a∈dn++[k]↔a∈dn:=by simp[e]
   have h2:k∈a::l↔k∈l:=by simp[Ne.symm e]
   by_cases q:a∈dn
   ·rw[if_pos (h1.mpr q),if_pos q]
    simp only[h2]
    exact ω447 ih
   ·rw[if_neg (λ z=>q (h1.mp z)),if_neg q]
    simp only[h2]
    exact ω448 ih
structure Gr (m:Nat) (keys:List Int) (sc:List (List Int)) (need:Int->List Int):Prop where
 nd:keys.Nodup
 mem:∀k,k∈keys↔0<=k/\k<m
 len:keys.length=m
 nnd:∀k∈keys,(need k).Nodup
 nlt:∀k∈keys,∀j∈need k,0<=j/\j<k
 sc:∀k∈keys,∃l,sc[bI keys k]? =some l/\l.Nodup/\∀s,s∈l↔s∈keys/\k∈need s
noncomputable def NPat (keys np:List Int)(f:Int->Int):Prop:=np.length=keys.length/\∀k∈keys,np[bI keys k]? =some (f k)
section
variable{m:Nat}{keys:List Int}{sc:List (List Int)}{need:Int->List Int}{np:List Int}{f:Int->Int}
theorem tD {k j:Int}(hk:k∈keys)(hj:j∈keys)(h:bI keys k=bI keys j):k=j:=by
 have:=eH hk
 rw[h,eH hj]at this
 exact(aj this).symm
theorem NPat.congr {g:Int->Int}(h:NPat keys np f)(e:∀k∈keys,f k=g k):NPat keys np g:=⟨h.1,λ k hk=>by rw[h.2 k hk,e k hk]⟩
theorem NPat.set (h:NPat keys np f){k:Int}(hk:k∈keys)(v:Int):NPat keys (np.set (bI keys k) v) (λ x=>if x=k then v else f x):=by
 refine⟨(by rw[List.length_set];exact h.1),λ x hx=>?_⟩
 show _=some (if x=k then v else f x)
 by_cases e:x=k
 ·subst e
  rw[if_pos rfl,aH (aa.mp (h.2 x hx)).1]
 ·rw[if_neg e,ak (λ q=>e (tD hx hk q.symm))]
  exact h.2 x hx
theorem uk:∀{ks np:List Int} {f:Int->Int},NPat keys np f->(∀k∈ks,k∈keys)->NPat keys (xI keys np ks) (λ x=>if x∈ks then -1 else f x)
 |[],np,f,h,_=>h.congr λ k _=>by simp
 |k::ks,np,f,h,hk=>by
  have h1:=h.set (hk k aT) (-1)
  have:xI keys np (k::ks)=xI keys (cr np (bI keys k) (-1)) ks:=rfl
  rw[this,bw]
  refine(uk h1 λ x hx=>hk x (ar _ hx)).congr λ x _=>?_
  by_cases e:x∈ks
  ·rw[if_pos e,if_pos (ar _ e)]
  ·rw[if_neg e]
   by_cases q:x=k
   ·rw[if_pos q,if_pos (by rw[q];exact aT)]
   ·rw[if_neg q,if_neg (by simp[q,e])]
theorem qX:∀{ss:List Int} {S:fb} {f:Int->Int},NPat keys S.np f->(∀s∈ss,s∈keys)->ss.Nodup->
  NPat keys (eh keys ss S).np (λ x=>if x∈ss then f x - 1 else f x)/\(eh keys ss S).rdy=S.rdy++ss.filter (λ s=>f s - 1 == 0)/\(eh keys ss S).psd=S.psd/\(eh keys ss S).fin=S.fin/\(eh keys ss S).bd=S.bd
 |[],S,f,h,_,_=>⟨h.congr λ k _=>(by simp),(by show S.rdy=S.rdy++[];rw[List.append_nil]),rfl,rfl,rfl⟩
 |s::ss,S,f,h,hk,hn=>by
  rw[List.nodup_cons]at hn
  have hs:=hk s aT
  have e0:eh keys (s::ss) S=eh keys ss (k7 keys S s):=rfl
  have h1:=h.set hs (f s - 1)
  have e1:=qW (S:=S) (h.2 s hs)
  rw[e0,e1]
  refine ou (qX (ss:=ss) (S:=⟨S.np.set (bI keys s) (f s - 1),bb (f s - 1 == 0) (S.rdy++[s]) S.rdy,S.psd,S.fin,S.bd⟩) h1 (λ x hx=>hk x (ar _ hx)) hn.2) λ g1 g2 g3 g4 g5=>?_
  refine⟨g1.congr λ x _=>?_,?_,g3,g4,g5⟩
  ·by_cases e:x∈ss
   ·have:x≠s:=λ q=>hn.1 (q▸e)
    rw[if_pos e,if_neg this,if_pos (ar _ e)]
   ·rw[if_neg e]
    by_cases q:x=s
    ·rw[if_pos q,if_pos (by rw[q];exact aT),q]
    ·rw[if_neg q,if_neg (by simp[q,e])]
  ·rw[g2]
   have e2:ss.filter (λ x=>(if x=s then f s - 1 else f x) - 1 == 0)=ss.filter (λ x=>f x - 1 == 0):=List.filter_congr λ x hx=>by
    have:x≠s:=λ q=>hn.1 (q▸hx)
    rw[if_neg this]
   rw[e2]
   cases q:f s - 1 == 0 with
   |true=>
    rw[List.filter_cons_of_pos (by exact q)]
    show(S.rdy++[s])++_=_
    rw[aR];rfl
   |false=>
    rw[List.filter_cons_of_neg (by show¬(f s - 1 == 0)=true;rw[q];nofun)]
    rfl
structure Inv (keys:List Int) (need:Int->List Int) (dn w:List Int) (S:fb):Prop where
 np:NPat keys S.np (λ k=>if k∈dn then -2 else if k∈w then -1 else(qY dn (need k):Int))
 rnd:S.rdy.Nodup
 rdy:∀k,k∈S.rdy↔k∈keys/\k∉dn/\k∉w/\qY dn (need k)=0
 fin:S.fin=dn.length
 psd:S.psd=dn.length+w.length
 wnd:w.Nodup
 dnd:dn.Nodup
 ok:∀k∈w,k∈keys/\k∉dn/\qY dn (need k)=0
 dk:∀k∈dn,k∈keys
 dcl:∀k∈dn,∀j∈need k,j∈dn
theorem Inv.gr {dn w:List Int}{S:fb}(I:Inv keys need dn w S):Inv keys need dn (w++S.rdy) (gR keys S):=by
 refine⟨?_,List.nodup_nil,λ k=>⟨λ h=>(by cases h),λ h=>?_⟩,I.fin,?_,?_,I.dnd,λ k hk=>?_,I.dk,I.dcl⟩
 ·refine(uk I.np λ k hk=>((I.rdy k).mp hk).1).congr λ k _=>?_
  by_cases e:k∈S.rdy
  ·have:=(I.rdy k).mp e
   rw[if_pos e,if_neg this.2.1,if_pos (List.mem_append_right _ e)]
  ·rw[if_neg e]
   by_cases q:k∈dn
   ·rw[if_pos q,if_pos q]
   ·rw[if_neg q,if_neg q]
    by_cases z:k∈w
    ·rw[if_pos z,if_pos (List.mem_append_left _ z)]
    ·rw[if_neg z,if_neg (λ y=>(bn.mp y).elim z e)]
 ·exact absurd (List.mem_append_right w ((I.rdy k).mpr ⟨h.1,h.2.1,λ z=>h.2.2.1 (List.mem_append_left _ z),h.2.2.2⟩)) h.2.2.1
 ·show S.psd+S.rdy.length=_
  rw[I.psd,aU]
  exact ω449
 ·exact List.nodup_append.mpr ⟨I.wnd,I.rnd,λ a ha b hb e=>((I.rdy b).mp hb).2.2.1 (e▸ha)⟩
 ·rcases bn.mp hk with h|h
  ·exact I.ok k h
  ·have:=(I.rdy k).mp h
   exact⟨this.1,this.2.1,this.2.2.2⟩
theorem Inv.np_at {dn w:List Int}{S:fb}(I:Inv keys need dn w S){k:Int}(hk:k∈w):S.np[bI keys k]? =some (-1):=by
 have:=I.ok k hk
 exact(I.np.2 k this.1).trans (congrArg some (by show(if k∈dn then(-2:Int)else _)=-1;rw[if_neg this.2.1,if_pos hk]))
theorem Inv.dn1 (H:Gr m keys sc need){dn w w':List Int}{S:fb}(I:Inv keys need dn w S)(hr:S.rdy=[]){k:Int}(hk:k∈w)(w1:w'.Nodup)(w2:∀x,x∈w'↔x∈w/\x≠k)(w3:w'.length+1=w.length):
  Inv keys need (dn++[k]) w' (Mine.dn1 keys sc S k)/\(Mine.dn1 keys sc S k).bd=S.bd+1:=by
 have hk0:=I.ok k hk
 refine bW (H.sc k hk0.1) λ l hl lnd lm=>?_
 have np1:=I.np.set hk0.1 (-2)
 refine ou (qX (ss:=l) (S:=⟨S.np.set (bI keys k) (-2),S.rdy,S.psd,S.fin,S.bd⟩) np1 (λ s hs=>((lm s).mp hs).1) lnd) λ g1 g2 g3 g4 g5=>?_
 have e4:Mine.dn1 keys sc S k=⟨(eh keys l ⟨S.np.set (bI keys k) (-2),S.rdy,S.psd,S.fin,S.bd⟩).np,(eh keys l ⟨S.np.set (bI keys k) (-2),S.rdy,S.psd,S.fin,S.bd⟩).rdy,(eh keys l ⟨S.np.set (bI keys k) (-2),S.rdy,S.psd,S.fin,S.bd⟩).psd,(eh keys l ⟨S.np.set (bI keys k) (-2),S.rdy,S.psd,S.fin,S.bd⟩).fin+1,(eh keys l ⟨S.np.set (bI keys k) (-2),S.rdy,S.psd,S.fin,S.bd⟩).bd+1⟩:=by
  unfold Mine.dn1
  rw[aS,hl,bw]
  rfl
 rw[e4]
 generalize eh keys l ⟨S.np.set (bI keys k) (-2),S.rdy,S.psd,S.fin,S.bd⟩=S2 at g1 g2 g3 g4 g5
 have g2:S2.rdy=S.rdy++l.filter (λ s=>(if s=k then -2 else if s∈dn then -2 else if s∈w then -1 else(qY dn (need s):Int)) - 1 == 0):=g2
 have g3:S2.psd=S.psd:=g3
 have g4:S2.fin=S.fin:=g4
 have g5:S2.bd=S.bd:=g5
 rw[hr,List.nil_append]at g2
 have kk:k∉l:=λ h=>by
  have:=H.nlt k hk0.1 k ((lm k).mp h).2
  exact ω450 this
 have fl:∀s∈l,s∈keys/\s≠k/\s∉dn/\s∉w/\k∈need s/\qY (dn++[k]) (need s)+1=qY dn (need s):=λ s hs=>by
  have h:=(lm s).mp hs
  refine⟨h.1,λ q=>kk (q▸hs),λ q=>hk0.2.1 (I.dcl s q k h.2),λ q=>hk0.2.1 (fk.mp (I.ok s q).2.2 k h.2),h.2,?_⟩
  have:=nt hk0.2.1 (H.nnd s h.1)
  rw[if_pos h.2]at this
  exact this
 have memk:∀x,x∈dn++[k]↔x∈dn∨x=k:=λ x=>by simp
 refine⟨⟨?_,?_,?_,?_,?_,w1,?_,?_,?_,?_⟩,by show S2.bd+1=_;rw[g5]⟩
 ·refine g1.congr λ x hx=>?_
  by_cases e:x∈l
  ·have h:=fl x e
   rw[if_pos e,if_neg h.2.1,if_neg h.2.2.1,if_neg h.2.2.2.1,if_neg (λ q=>((memk x).mp q).elim h.2.2.1 h.2.1),if_neg (λ q=>h.2.2.2.1 ((w2 x).mp q).1)]
   have:=h.2.2.2.2.2
   exact ω436 this
  ·rw[if_neg e]
   by_cases q:x=k
   ·rw[if_pos q,if_pos ((memk x).mpr (.inr q))]
   ·rw[if_neg q]
    by_cases z:x∈dn
    ·rw[if_pos z,if_pos ((memk x).mpr (.inl z))]
    ·rw[if_neg z,if_neg (λ y=>((memk x).mp y).elim z q)]
     by_cases v:x∈w
     ·rw[if_pos v,if_pos ((w2 x).mpr ⟨v,q⟩)]
     ·rw[if_neg v,if_neg (λ y=>v ((w2 x).mp y).1)]
      have:k∉need x:=λ y=>e ((lm x).mpr ⟨hx,y⟩)
      have h:=nt hk0.2.1 (H.nnd x hx)
      rw[if_neg this]at h
      exact ω437 h
 ·show S2.rdy.Nodup
  rw[g2]
  exact lnd.filter _
 ·intro s
  show s∈S2.rdy↔_
  rw[g2,List.mem_filter]
  refine⟨λ h=>?_,λ h=>?_⟩
  ·have f:=fl s h.1
   have h2:=h.2
   rw[if_neg f.2.1,if_neg f.2.2.1,if_neg f.2.2.2.1,beq_iff_eq]at h2
   refine⟨f.1,λ q=>((memk s).mp q).elim f.2.2.1 f.2.1,λ q=>f.2.2.2.1 ((w2 s).mp q).1,?_⟩
   have:=f.2.2.2.2.2
   exact ω438 h2 this
  ·have h1:s∉dn:=λ q=>h.2.1 ((memk s).mpr (.inl q))
   have h2:s≠k:=λ q=>h.2.1 ((memk s).mpr (.inr q))
   have h3:s∉w:=λ q=>h.2.2.1 ((w2 s).mpr ⟨q,h2⟩)
   have ca:=nt hk0.2.1 (H.nnd s h.1)
   by_cases e:k∈need s
   ·rw[if_pos e]at ca
    have hs:=(lm s).mpr ⟨h.1,e⟩
    refine⟨hs,?_⟩
    rw[if_neg h2,if_neg h1,if_neg h3,beq_iff_eq]
    have:=h.2.2.2
    exact ω439 ca this
   ·rw[if_neg e]at ca
    have:s∈S.rdy:=(I.rdy s).mpr ⟨h.1,h1,h3,by have:=h.2.2.2;exact ω440 ca this⟩
    rw[hr]at this
    cases this
 ·show S2.fin+1=_
  rw[g4,I.fin,aU]
  rfl
 ·show S2.psd=_
  rw[g3,I.psd,aU,← w3]
  simp only[bL,List.length_nil]
  exact ω441
 ·refine List.nodup_append.mpr ⟨I.dnd,by simp,λ a ha b hb e=>?_⟩
  have:b=k:=by simpa using hb
  exact hk0.2.1 (this▸e▸ha)
 ·intro x hx
  have h:=(w2 x).mp hx
  have o:=I.ok x h.1
  refine⟨o.1,λ q=>((memk x).mp q).elim o.2.1 h.2,?_⟩
  exact fk.mpr λ j hj=>(memk j).mpr (.inl (fk.mp o.2.2 j hj))
 ·intro x hx
  exact((memk x).mp hx).elim (I.dk x) λ q=>q▸hk0.1
 ·intro x hx j hj
  refine(memk j).mpr (.inl ?_)
  exact((memk x).mp hx).elim (λ q=>I.dcl x q j hj) λ q=>fk.mp hk0.2.2 j (q▸hj)
theorem ky:∀{a b:List Int},a.Nodup->(∀x∈a,x∈b)->a.length<=b.length
 |[],_,_,_=>Nat.zero_le _
 |x::a,b,h,s=>by
  rw[List.nodup_cons]at h
  have hx:=s x aT
  have:=ky (b:=b.erase x) h.2 λ y hy=>(List.mem_erase_of_ne (λ e=>h.1 (by rw[← show y=x from e];exact hy))).mpr (s y (ar _ hy))
  rw[List.length_erase_of_mem hx]at this
  have:=List.length_pos_of_mem hx
  rw[bL]
  lia
theorem tT {a b:List Int}(ha:a.Nodup)(s:∀x∈a,x∈b)(hl:b.length<=a.length){x:Int}(hx:x∈b):x∈a:=by
 refine Classical.byContradiction λ q=>?_
 have:=ky (a:=x::a) (b:=b) (List.nodup_cons.mpr ⟨q,ha⟩) λ y hy=>(List.mem_cons.mp hy).elim (λ e=>by rw[e];exact hx) (s y)
 rw[bL]at this
 exact ω442 this hl
theorem Gr.free (H:Gr m keys sc need)(dn:List Int):∀(n:Nat) (k:Int),k∈keys->k∉dn->k.toNat<=n->∃k'∈keys,k'∉dn/\qY dn (need k')=0
 |n,k,hk,hd,hn=>by
  by_cases e:qY dn (need k)=0
  ·exact⟨k,hk,hd,e⟩
  ·have:∃j∈need k,j∉dn:=Classical.byContradiction λ q=>e (fk.mpr λ j hj=>Classical.byContradiction λ z=>q ⟨j,hj,z⟩)
   refine aQ this λ j hj hjd=>?_
   have lt:=H.nlt k hk j hj
   have kl:=(H.mem k).mp hk
   cases n with
   |zero=>exact(ω443 lt hn).elim
   |succ n=>exact Gr.free H dn n j ((H.mem j).mpr (ω445 lt kl)) hjd (ω446 lt hn)
theorem Inv.some (H:Gr m keys sc need){dn w:List Int}{S:fb}(I:Inv keys need dn w S)(h:dn.length<m):∃x,x∈w++S.rdy:=by
 have:∃k∈keys,k∉dn:=Classical.byContradiction λ q=>by
  have:=ky (b:=dn) H.nd λ k hk=>Classical.byContradiction λ z=>q ⟨k,hk,z⟩
  rw[H.len]at this
  exact ej h this
 refine aQ this λ k hk hd=>?_
 refine bW (H.free dn k.toNat k hk hd (Nat.le_refl _)) λ x hx hxd hc=>?_
 refine⟨x,?_⟩
 by_cases z:x∈w
 ·exact List.mem_append_left _ z
 ·exact List.mem_append_right _ ((I.rdy x).mpr ⟨hx,hxd,z,hc⟩)
theorem Inv.end' (H:Gr m keys sc need){dn w:List Int}{S:fb}(I:Inv keys need dn w S)(h:dn.length=m):w=[]/\S.rdy=[]:=by
 have al:∀k∈keys,k∈dn:=λ k hk=>tT I.dnd I.dk (by rw[H.len,h];exact Nat.le_refl _) hk
 refine⟨?_,?_⟩
 ·cases hw:w with
  |nil=>rfl
  |cons x xs=>exact absurd (al x (I.ok x (by rw[hw];exact aT)).1) (I.ok x (by rw[hw];exact aT)).2.1
 ·cases hw:S.rdy with
  |nil=>rfl
  |cons x xs=>
   have:=(I.rdy x).mp (by rw[hw];exact aT)
   exact absurd (al x this.1) this.2.1
theorem Inv.rl (H:Gr m keys sc need){dn w:List Int}{S:fb}(I:Inv keys need dn w S):S.rdy.length<=m/\w.length<=m/\(w++S.rdy).length<=m:=by
 have:=I.gr
 exact⟨H.len▸ky I.rnd λ x hx=>((I.rdy x).mp hx).1,H.len▸ky I.wnd λ x hx=>(I.ok x hx).1,H.len▸ky this.wnd λ x hx=>(this.ok x hx).1⟩
theorem Inv.l1 {dn w:List Int}{S:fb}(I:Inv keys need dn w S):S.np.length=keys.length:=I.np.1
end
noncomputable def Lin (need:Int->List Int)(o:List Int):List Int->Prop:=List.rec (motive:=λ _=>List Int->Prop) (λ _=>True) (λ k _ ih dn=>(∀j∈need k,j∈dn)/\ih (dn++[k])) o
noncomputable def tg (need:Int->List Int)(p:Nat):List Int->List Int:=Nat.rec (motive:=λ _=>List Int->List Int) (λ l=>List.rec (motive:=λ _=>List Int) [] (λ a t _=>List.rec (motive:=λ _=>List Int) [a] (λ b u _=>bb (eg a (need b)) (a::b::u) (b::a::u)) t) l) (λ _ ih l=>List.rec (motive:=λ _=>List Int) [] (λ a t _=>a::ih t) l) p
section
variable{need:Int->List Int}
theorem Lin.congr:∀{o dn dn':List Int},(∀x,x∈dn->x∈dn')->Lin need o dn->Lin need o dn'
 |[],_,_,_,_=>trivial
 |k::o,dn,dn',h,l=>by
  have l:(∀j∈need k,j∈dn)/\Lin need o (dn++[k]):=l
  refine⟨λ j hj=>h j (l.1 j hj),Lin.congr (λ x hx=>?_) l.2⟩
  exact(bn.mp hx).elim (λ q=>List.mem_append_left _ (h x q)) (List.mem_append_right _)
structure LO (need:Int->List Int) (o dn:List Int):Prop where
 nd:(dn++o).Nodup
 lin:Lin need o dn
theorem LO.tl {a:Int}{o dn:List Int}(h:LO need (a::o) dn):LO need o (dn++[a]):=⟨by rw[aR];exact h.nd,h.lin.2⟩
theorem LO.hd {a:Int}{o dn:List Int}(h:LO need o (dn++[a]))(l:∀j∈need a,j∈dn):LO need (a::o) dn:=⟨by have:=h.nd;rw[aR]at this;exact this,l,h.lin⟩
theorem mo:∀{p:Nat} {o:List Int},(tg need p o).Perm o
 |0,[]=>.refl _
 |0,[a]=>.refl _
 |0,a::b::u=>by
  show(bb (eg a (need b)) (a::b::u) (b::a::u)).Perm _
  cases eg a (need b)with
  |true=>exact .refl _
  |false=>exact .swap _ _ _
 |p+1,[]=>.refl _
 |p+1,a::o=>(mo (p:=p) (o:=o)).cons a
theorem nN:∀{p:Nat} {o:List Int},(im p o).Perm o
 |0,[]=>.refl _
 |0,[a]=>.refl _
 |0,a::b::u=>.swap _ _ _
 |p+1,[]=>.refl _
 |p+1,a::o=>(nN (p:=p) (o:=o)).cons a
theorem nY {a b:Int}{u dn:List Int}(h:(dn++a::b::u).Nodup):a∉dn/\b∉dn/\a≠b:=by
 have:=List.nodup_append.mp h
 refine⟨λ q=>this.2.2 a q a (by simp) rfl,λ q=>this.2.2 b q b (by simp) rfl,λ q=>?_⟩
 have:=(List.nodup_cons.mp this.2.1).1
 exact this (by rw[q];simp)
theorem nO {a b:Int}{u dn:List Int}(h:LO need (a::b::u) dn)(hn:a∉need b):Lin need (b::a::u) dn:=by
 have h1:∀j∈need a,j∈dn:=h.lin.1
 have h2:∀j∈need b,j∈dn++[a]:=h.lin.2.1
 have h3:Lin need u (dn++[a]++[b]):=h.lin.2.2
 refine⟨λ j hj=>?_,λ j hj=>List.mem_append_left _ (h1 j hj),h3.congr λ x hx=>?_⟩
 ·rcases bn.mp (h2 j hj)with q|q
  ·exact q
  ·have:j=a:=by simpa using q
   exact absurd (this▸hj) hn
 ·simp at hx ⊢
  rcases hx with q|q|q
  ·exact .inl q
  ·exact .inr (.inr q)
  ·exact .inr (.inl q)
theorem sJ:∀{p:Nat} {o dn:List Int},LO need o dn->LO need (tg need p o) dn
 |0,[],_,h=>h
 |0,[a],_,h=>h
 |0,a::b::u,dn,h=>by
  show LO need (bb (eg a (need b)) (a::b::u) (b::a::u)) dn
  cases q:eg a (need b)with
  |true=>exact h
  |false=>exact⟨((List.Perm.swap a b u).append_left dn).nodup_iff.mpr h.nd,nO h (λ z=>by rw[d9.mpr z]at q;cases q)⟩
 |p+1,[],_,h=>h
 |p+1,a::o,dn,h=>(sJ (p:=p) h.tl).hd h.lin.1
theorem sP:∀{p:Nat} {o dn:List Int},LO need o dn->p+1<o.length->∃a b,o[p]? =some a/\o[p+1]? =some b/\(a∈need b->tg need p o=o/\¬Lin need (im p o) dn)/\(a∉need b->tg need p o=im p o/\Lin need (im p o) dn)
 |0,[],_,h,hp=>absurd hp (bK _)
 |0,[a],_,h,hp=>absurd hp (aM _)
 |0,a::b::u,dn,h,hp=>by
  refine⟨a,b,rfl,rfl,λ q=>⟨?_,λ z=>?_⟩,λ q=>⟨?_,nO h q⟩⟩
  ·show bb (eg a (need b)) (a::b::u) (b::a::u)=_
   rw[d9.mpr q];rfl
  ·exact(nY h.nd).1 (z.1 a q)
  ·show bb (eg a (need b)) (a::b::u) (b::a::u)=_
   cases z:eg a (need b)with
   |true=>exact absurd (d9.mp z) q
   |false=>rfl
 |p+1,[],_,h,hp=>absurd hp (bK _)
 |p+1,a::o,dn,h,hp=>by
  refine bz (sP (p:=p) h.tl (bu hp)) λ x y h1 h2 h3 h4=>?_
  refine⟨x,y,h1,h2,λ q=>⟨congrArg (a::·) (h3 q).1,λ z=>(h3 q).2 z.2⟩,λ q=>⟨congrArg (a::·) (h4 q).1,h.lin.1,(h4 q).2⟩⟩
theorem xz:∀{p:Nat} {o dn:List Int},LO need o dn->tg need p (tg need p o)=o
 |0,[],_,_=>rfl
 |0,[a],_,_=>rfl
 |0,a::b::u,dn,h=>by
  show tg need 0 (bb (eg a (need b)) (a::b::u) (b::a::u))=_
  cases q:eg a (need b)with
  |true=>
   show bb (eg a (need b)) (a::b::u) (b::a::u)=_
   rw[q];rfl
  |false=>
   show bb (eg b (need a)) (b::a::u) (a::b::u)=_
   cases z:eg b (need a)with
   |true=>exact absurd (h.lin.1 b (d9.mp z)) (nY h.nd).2.1
   |false=>rfl
 |p+1,[],_,_=>rfl
 |p+1,a::o,dn,h=>congrArg (a::·) (xz (p:=p) h.tl)
theorem p6:∀{p q:Nat} {o:List Int},p+2<=q->tg need p (tg need q o)=tg need q (tg need p o)
 |0,0,_,h=>absurd h (by decide)
 |0,1,_,h=>absurd h (by decide)
 |0,q+2,[],_=>rfl
 |0,q+2,[a],_=>rfl
 |0,q+2,a::b::u,_=>by
  show bb (eg a (need b)) (a::b::tg need q u) (b::a::tg need q u)=tg need (q+2) (bb (eg a (need b)) (a::b::u) (b::a::u))
  cases eg a (need b)<;>rfl
 |p+1,0,_,h=>absurd h (Nat.not_succ_le_zero _)
 |p+1,q+1,[],_=>rfl
 |p+1,q+1,a::o,h=>congrArg (a::·) (p6 (p:=p) (q:=q) (o:=o) (Nat.le_of_succ_le_succ h))
noncomputable def gh (need:Int->List Int)(l:List Nat):List Int->List Int:=List.rec (motive:=λ _=>List Int->List Int) (λ o=>o) (λ p _ ih o=>ih (tg need p o)) l
theorem gu:∀{l:List Nat} {o:List Int},LO need o []->LO need (gh need l o) []
 |[],_,h=>h
 |p::l,o,h=>gu (l:=l) (sJ (p:=p) h)
theorem kn:∀{a b:List Nat} {o:List Int},gh need (a++b) o=gh need b (gh need a o)
 |[],_,_=>rfl
 |p::a,b,o=>kn (a:=a) (b:=b) (o:=tg need p o)
theorem dQ:∀{l:List Nat} {o:List Int},(gh need l o).Perm o
 |[],_=>.refl _
 |p::l,o=>(dQ (l:=l)).trans mo
theorem eV {o:List Int}(h:LO need o [])(a:List Nat)(p:Nat)(b:List Nat):gh need (a++p::p::b) o=gh need (a++b) o:=by
 rw[kn,kn]
 show gh need b (tg need p (tg need p (gh need a o)))=_
 rw[xz (gu h)]
theorem kj {o:List Int}(a:List Nat)(p q:Nat)(b:List Nat)(h:p+2<=q):gh need (a++p::q::b) o=gh need (a++q::p::b) o:=by
 rw[kn,kn]
 show gh need b (tg need q (tg need p (gh need a o)))=gh need b (tg need p (tg need q (gh need a o)))
 rw[p6 h]
theorem uu {o:List Int}(h:LO need o []):gh need [0,1,2,0,2,0,1,0] o=o:=
 (kj [0,1,2] 0 2 [0,1,0] (by decide)).trans<|(eV h [0,1] 2 [0,0,1,0]).trans<|(eV h [0,1] 0 [1,0]).trans<|(eV h [0] 1 [0]).trans<|eV h [] 0 []
noncomputable def l4 (m:Nat):List Nat:=bb (Nat.beq m 4) [0,1,2,0,1,0] [0,1,2,3,0,1,2,0,1,0]
theorem ev_ev {o:List Int}{m:Nat}(hm:m=4∨m=5)(h:LO need o []):gh need (l4 m) (gh need (l4 m) o)=o:=by
 rcases hm with rfl|rfl
 ·exact(eV h [0,1,2,0,1] 0 [1,2,0,1,0]).trans<|(eV h [0,1,2,0] 1 [2,0,1,0]).trans<|uu h
 ·exact(eV h [0,1,2,3,0,1,2,0,1] 0 [1,2,3,0,1,2,0,1,0]).trans<|(eV h [0,1,2,3,0,1,2,0] 1 [2,3,0,1,2,0,1,0]).trans<|
   (kj [0,1,2,3,0,1,2] 0 2 [3,0,1,2,0,1,0] (by decide)).trans<|(eV h [0,1,2,3,0,1] 2 [0,3,0,1,2,0,1,0]).trans<|
   (kj [0,1,2,3,0,1] 0 3 [0,1,2,0,1,0] (by decide)).trans<|(eV h [0,1,2,3,0,1,3] 0 [1,2,0,1,0]).trans<|
   (kj [0,1,2,3,0] 1 3 [1,2,0,1,0] (by decide)).trans<|(eV h [0,1,2,3,0,3] 1 [2,0,1,0]).trans<|
   (kj [0,1,2,3] 0 3 [2,0,1,0] (by decide)).trans<|(eV h [0,1,2] 3 [0,2,0,1,0]).trans<|uu h
theorem n5:∀{o dn:List Int},Lin need o dn->∀{i:Nat} {k:Int},o[i]? =some k->∀j∈need k,j∈dn++o.take i
 |[],_,_,_,_,h,_,_=>by cases h
 |a::o,dn,l,0,k,h,j,hj=>by
  cases h
  exact List.mem_append_left _ (l.1 j hj)
 |a::o,dn,l,i+1,k,h,j,hj=>by
  have:=n5 (o:=o) l.2 (i:=i) h j hj
  rw[aR]at this
  exact this
end
theorem all_s:iu okC (gJ [0,1,2])=true:=by decide+kernel
noncomputable def okDC (d c:List Int):Bool:=iu (λ b=>iu (λ a=>uy 5 [[],a,b,c,d]) (gJ [0])) (gJ [0,1])
theorem bA8 {p q:Bool}(h:p=true)(k:q=true):bb p q false=true:=by subst h;exact k
theorem al8x {d:List Int}(h0:okDC d [0,1,2]=true)(h1:okDC d [0,1]=true)(h2:okDC d [0,2]=true)(h3:okDC d [0]=true)(h4:okDC d [1,2]=true)(h5:okDC d [1]=true)(h6:okDC d [2]=true)(h7:okDC d []=true):gW d=true:=by
 show iu (okDC d) [[0,1,2],[0,1],[0,2],[0],[1,2],[1],[2],[]]=true
 exact bA8 h0 (bA8 h1 (bA8 h2 (bA8 h3 (bA8 h4 (bA8 h5 (bA8 h6 (bA8 h7 (rfl))))))))
theorem k0_0:okDC [0,1,2,3] [0,1,2]=true:=by decide+kernel
theorem k0_1:okDC [0,1,2,3] [0,1]=true:=by decide+kernel
theorem k0_2:okDC [0,1,2,3] [0,2]=true:=by decide+kernel
theorem k0_3:okDC [0,1,2,3] [0]=true:=by decide+kernel
theorem k0_4:okDC [0,1,2,3] [1,2]=true:=by decide+kernel
theorem k0_5:okDC [0,1,2,3] [1]=true:=by decide+kernel
theorem k0_6:okDC [0,1,2,3] [2]=true:=by decide+kernel
theorem k0_7:okDC [0,1,2,3] []=true:=by decide+kernel
theorem all_0:gW [0,1,2,3]=true:=al8x k0_0 k0_1 k0_2 k0_3 k0_4 k0_5 k0_6 k0_7
theorem k1_0:okDC [0,1,2] [0,1,2]=true:=by decide+kernel
theorem k1_1:okDC [0,1,2] [0,1]=true:=by decide+kernel
theorem k1_2:okDC [0,1,2] [0,2]=true:=by decide+kernel
theorem k1_3:okDC [0,1,2] [0]=true:=by decide+kernel
theorem k1_4:okDC [0,1,2] [1,2]=true:=by decide+kernel
theorem k1_5:okDC [0,1,2] [1]=true:=by decide+kernel
theorem k1_6:okDC [0,1,2] [2]=true:=by decide+kernel
theorem k1_7:okDC [0,1,2] []=true:=by decide+kernel
theorem all_1:gW [0,1,2]=true:=al8x k1_0 k1_1 k1_2 k1_3 k1_4 k1_5 k1_6 k1_7
theorem k2_0:okDC [0,1,3] [0,1,2]=true:=by decide+kernel
theorem k2_1:okDC [0,1,3] [0,1]=true:=by decide+kernel
theorem k2_2:okDC [0,1,3] [0,2]=true:=by decide+kernel
theorem k2_3:okDC [0,1,3] [0]=true:=by decide+kernel
theorem k2_4:okDC [0,1,3] [1,2]=true:=by decide+kernel
theorem k2_5:okDC [0,1,3] [1]=true:=by decide+kernel
theorem k2_6:okDC [0,1,3] [2]=true:=by decide+kernel
theorem k2_7:okDC [0,1,3] []=true:=by decide+kernel
theorem all_2:gW [0,1,3]=true:=al8x k2_0 k2_1 k2_2 k2_3 k2_4 k2_5 k2_6 k2_7
theorem k3_0:okDC [0,1] [0,1,2]=true:=by decide+kernel
theorem k3_1:okDC [0,1] [0,1]=true:=by decide+kernel
theorem k3_2:okDC [0,1] [0,2]=true:=by decide+kernel
theorem k3_3:okDC [0,1] [0]=true:=by decide+kernel
theorem k3_4:okDC [0,1] [1,2]=true:=by decide+kernel
theorem k3_5:okDC [0,1] [1]=true:=by decide+kernel
theorem k3_6:okDC [0,1] [2]=true:=by decide+kernel
theorem k3_7:okDC [0,1] []=true:=by decide+kernel
theorem all_3:gW [0,1]=true:=al8x k3_0 k3_1 k3_2 k3_3 k3_4 k3_5 k3_6 k3_7
theorem k4_0:okDC [0,2,3] [0,1,2]=true:=by decide+kernel
theorem k4_1:okDC [0,2,3] [0,1]=true:=by decide+kernel
theorem k4_2:okDC [0,2,3] [0,2]=true:=by decide+kernel
theorem k4_3:okDC [0,2,3] [0]=true:=by decide+kernel
theorem k4_4:okDC [0,2,3] [1,2]=true:=by decide+kernel
theorem k4_5:okDC [0,2,3] [1]=true:=by decide+kernel
theorem k4_6:okDC [0,2,3] [2]=true:=by decide+kernel
theorem k4_7:okDC [0,2,3] []=true:=by decide+kernel
theorem all_4:gW [0,2,3]=true:=al8x k4_0 k4_1 k4_2 k4_3 k4_4 k4_5 k4_6 k4_7
theorem k5_0:okDC [0,2] [0,1,2]=true:=by decide+kernel
theorem k5_1:okDC [0,2] [0,1]=true:=by decide+kernel
theorem k5_2:okDC [0,2] [0,2]=true:=by decide+kernel
theorem k5_3:okDC [0,2] [0]=true:=by decide+kernel
theorem k5_4:okDC [0,2] [1,2]=true:=by decide+kernel
theorem k5_5:okDC [0,2] [1]=true:=by decide+kernel
theorem k5_6:okDC [0,2] [2]=true:=by decide+kernel
theorem k5_7:okDC [0,2] []=true:=by decide+kernel
theorem all_5:gW [0,2]=true:=al8x k5_0 k5_1 k5_2 k5_3 k5_4 k5_5 k5_6 k5_7
theorem k6_0:okDC [0,3] [0,1,2]=true:=by decide+kernel
theorem k6_1:okDC [0,3] [0,1]=true:=by decide+kernel
theorem k6_2:okDC [0,3] [0,2]=true:=by decide+kernel
theorem k6_3:okDC [0,3] [0]=true:=by decide+kernel
theorem k6_4:okDC [0,3] [1,2]=true:=by decide+kernel
theorem k6_5:okDC [0,3] [1]=true:=by decide+kernel
theorem k6_6:okDC [0,3] [2]=true:=by decide+kernel
theorem k6_7:okDC [0,3] []=true:=by decide+kernel
theorem all_6:gW [0,3]=true:=al8x k6_0 k6_1 k6_2 k6_3 k6_4 k6_5 k6_6 k6_7
theorem k7_0:okDC [0] [0,1,2]=true:=by decide+kernel
theorem k7_1:okDC [0] [0,1]=true:=by decide+kernel
theorem k7_2:okDC [0] [0,2]=true:=by decide+kernel
theorem k7_3:okDC [0] [0]=true:=by decide+kernel
theorem k7_4:okDC [0] [1,2]=true:=by decide+kernel
theorem k7_5:okDC [0] [1]=true:=by decide+kernel
theorem k7_6:okDC [0] [2]=true:=by decide+kernel
theorem k7_7:okDC [0] []=true:=by decide+kernel
theorem all_7:gW [0]=true:=al8x k7_0 k7_1 k7_2 k7_3 k7_4 k7_5 k7_6 k7_7
theorem k8_0:okDC [1,2,3] [0,1,2]=true:=by decide+kernel
theorem k8_1:okDC [1,2,3] [0,1]=true:=by decide+kernel
theorem k8_2:okDC [1,2,3] [0,2]=true:=by decide+kernel
theorem k8_3:okDC [1,2,3] [0]=true:=by decide+kernel
theorem k8_4:okDC [1,2,3] [1,2]=true:=by decide+kernel
theorem k8_5:okDC [1,2,3] [1]=true:=by decide+kernel
theorem k8_6:okDC [1,2,3] [2]=true:=by decide+kernel
theorem k8_7:okDC [1,2,3] []=true:=by decide+kernel
theorem all_8:gW [1,2,3]=true:=al8x k8_0 k8_1 k8_2 k8_3 k8_4 k8_5 k8_6 k8_7
theorem k9_0:okDC [1,2] [0,1,2]=true:=by decide+kernel
theorem k9_1:okDC [1,2] [0,1]=true:=by decide+kernel
theorem k9_2:okDC [1,2] [0,2]=true:=by decide+kernel
theorem k9_3:okDC [1,2] [0]=true:=by decide+kernel
theorem k9_4:okDC [1,2] [1,2]=true:=by decide+kernel
theorem k9_5:okDC [1,2] [1]=true:=by decide+kernel
theorem k9_6:okDC [1,2] [2]=true:=by decide+kernel
theorem k9_7:okDC [1,2] []=true:=by decide+kernel
theorem all_9:gW [1,2]=true:=al8x k9_0 k9_1 k9_2 k9_3 k9_4 k9_5 k9_6 k9_7
theorem k10_0:okDC [1,3] [0,1,2]=true:=by decide+kernel
theorem k10_1:okDC [1,3] [0,1]=true:=by decide+kernel
theorem k10_2:okDC [1,3] [0,2]=true:=by decide+kernel
theorem k10_3:okDC [1,3] [0]=true:=by decide+kernel
theorem k10_4:okDC [1,3] [1,2]=true:=by decide+kernel
theorem k10_5:okDC [1,3] [1]=true:=by decide+kernel
theorem k10_6:okDC [1,3] [2]=true:=by decide+kernel
theorem k10_7:okDC [1,3] []=true:=by decide+kernel
theorem zG:gW [1,3]=true:=al8x k10_0 k10_1 k10_2 k10_3 k10_4 k10_5 k10_6 k10_7
theorem k11_0:okDC [1] [0,1,2]=true:=by decide+kernel
theorem k11_1:okDC [1] [0,1]=true:=by decide+kernel
theorem k11_2:okDC [1] [0,2]=true:=by decide+kernel
theorem k11_3:okDC [1] [0]=true:=by decide+kernel
theorem k11_4:okDC [1] [1,2]=true:=by decide+kernel
theorem k11_5:okDC [1] [1]=true:=by decide+kernel
theorem k11_6:okDC [1] [2]=true:=by decide+kernel
theorem k11_7:okDC [1] []=true:=by decide+kernel
theorem zF:gW [1]=true:=al8x k11_0 k11_1 k11_2 k11_3 k11_4 k11_5 k11_6 k11_7
theorem k12_0:okDC [2,3] [0,1,2]=true:=by decide+kernel
theorem k12_1:okDC [2,3] [0,1]=true:=by decide+kernel
theorem k12_2:okDC [2,3] [0,2]=true:=by decide+kernel
theorem k12_3:okDC [2,3] [0]=true:=by decide+kernel
theorem k12_4:okDC [2,3] [1,2]=true:=by decide+kernel
theorem k12_5:okDC [2,3] [1]=true:=by decide+kernel
theorem k12_6:okDC [2,3] [2]=true:=by decide+kernel
theorem k12_7:okDC [2,3] []=true:=by decide+kernel
theorem zE:gW [2,3]=true:=al8x k12_0 k12_1 k12_2 k12_3 k12_4 k12_5 k12_6 k12_7
theorem k13_0:okDC [2] [0,1,2]=true:=by decide+kernel
theorem k13_1:okDC [2] [0,1]=true:=by decide+kernel
theorem k13_2:okDC [2] [0,2]=true:=by decide+kernel
theorem k13_3:okDC [2] [0]=true:=by decide+kernel
theorem k13_4:okDC [2] [1,2]=true:=by decide+kernel
theorem k13_5:okDC [2] [1]=true:=by decide+kernel
theorem k13_6:okDC [2] [2]=true:=by decide+kernel
theorem k13_7:okDC [2] []=true:=by decide+kernel
theorem zD:gW [2]=true:=al8x k13_0 k13_1 k13_2 k13_3 k13_4 k13_5 k13_6 k13_7
theorem k14_0:okDC [3] [0,1,2]=true:=by decide+kernel
theorem k14_1:okDC [3] [0,1]=true:=by decide+kernel
theorem k14_2:okDC [3] [0,2]=true:=by decide+kernel
theorem k14_3:okDC [3] [0]=true:=by decide+kernel
theorem k14_4:okDC [3] [1,2]=true:=by decide+kernel
theorem k14_5:okDC [3] [1]=true:=by decide+kernel
theorem k14_6:okDC [3] [2]=true:=by decide+kernel
theorem k14_7:okDC [3] []=true:=by decide+kernel
theorem zC:gW [3]=true:=al8x k14_0 k14_1 k14_2 k14_3 k14_4 k14_5 k14_6 k14_7
theorem k15_0:okDC [] [0,1,2]=true:=by decide+kernel
theorem k15_1:okDC [] [0,1]=true:=by decide+kernel
theorem k15_2:okDC [] [0,2]=true:=by decide+kernel
theorem k15_3:okDC [] [0]=true:=by decide+kernel
theorem k15_4:okDC [] [1,2]=true:=by decide+kernel
theorem k15_5:okDC [] [1]=true:=by decide+kernel
theorem k15_6:okDC [] [2]=true:=by decide+kernel
theorem k15_7:okDC [] []=true:=by decide+kernel
theorem zB:gW []=true:=al8x k15_0 k15_1 k15_2 k15_3 k15_4 k15_5 k15_6 k15_7
theorem all_d:∀d∈gJ [0,1,2,3],gW d=true:=by
 intro d hd
 have hd:d∈[([0,1,2,3]:List Int),([0,1,2]:List Int),([0,1,3]:List Int),([0,1]:List Int),([0,2,3]:List Int),([0,2]:List Int),([0,3]:List Int),([0]:List Int),([1,2,3]:List Int),([1,2]:List Int),([1,3]:List Int),([1]:List Int),([2,3]:List Int),([2]:List Int),([3]:List Int),([]:List Int)]:=hd
 simp only[List.mem_cons,bh,or_false]at hd
 rcases hd with rfl|rfl|rfl|rfl|rfl|rfl|rfl|rfl|rfl|rfl|rfl|rfl|rfl|rfl|rfl|rfl
 ·exact all_0
 ·exact all_1
 ·exact all_2
 ·exact all_3
 ·exact all_4
 ·exact all_5
 ·exact all_6
 ·exact all_7
 ·exact all_8
 ·exact all_9
 ·exact zG
 ·exact zF
 ·exact zE
 ·exact zD
 ·exact zC
 ·exact zB
section
variable{st l:List AO}{D:Dn}{X W:Nat->Prop}
theorem wL {i b:Nat}{v:AV}{vals:List (Option AV)}(hi:i<vals.length)(hb:b<=900):hY 137 i (.ref (st.length+1)) v (st++(.attrs 137 vals b:: .inst 137 st.length []::l))=some (st++(.attrs 137 (vals.set i (some v)) (b+1):: .inst 137 st.length []::l)):=by
 show dT (.ref (st.length+1)) _ none _=_
 rw[dY (C:=137) (j:=st.length) (v:=[]) (by rw[az (ω209),show st.length+1 - st.length=1 by exact ω210];rfl)]
 show bb (Nat.beq 137 137) (eK st.length (st++_) none _) none=_
 rw[fD (c:=137) (v:=vals) (b:=b) (by rw[az (Nat.le_refl _),Nat.sub_self];rfl)]
 show bb (Nat.ble b 900) (Op.b (cy vals i) none λ _=>some (cr (st++(AO.attrs 137 vals b::AO.inst 137 st.length []::l)) st.length (AO.attrs 137 (cr vals i (some v)) (Nat.succ b)))) none=_
 rw[aF hb,aS,ae hi,bw,bw]
 exact congrArg some (mz st _ _ _)
theorem wK {i b:Nat}{e:EF}{v:AV}{vals:List (Option AV)}{fr:List (Option AV)}{l2:List AO}(h0:fr[0]? =some (some (.ref (st.length+1))))(hc:D.cs=[])(hi:i<vals.length)(hb:b<=900)
  (he:e D ⟨st++(.attrs 137 vals b:: .inst 137 st.length []::l),fr⟩= .ok v ⟨st++(.attrs 137 vals b:: .inst 137 st.length []::l2),fr⟩):
  bv (lZ (hY 137 i) (cV 0)) e D ⟨st++(.attrs 137 vals b:: .inst 137 st.length []::l),fr⟩= .nx ⟨st++(.attrs 137 (vals.set i (some v)) (b+1):: .inst 137 st.length []::l2),fr⟩:=by
 refine e_ he ?_
 unfold lZ
 rw[jI (v:=.ref (st.length+1)) (by unfold bG;rw[hc];dsimp only;rw[show([]:List (Option Nat))[0]? =none from rfl];dsimp only;rw[h0])]
 show Op.b (hY 137 i (.ref (st.length+1)) v _) _ _=_
 rw[wL hi hb]
 rfl
theorem vQ {d:Nat}(hd:D.d=d+2){fr:List (Option AV)}:jv (oH 137 4 0 1 4 [.none] bf) D ⟨st,fr⟩=
  .ok (.ref (st.length+1)) ⟨st++[.attrs 137 [some (.ref (st.length+2)),some .none,some (.int 0),some (.int 0)] 4,.inst 137 st.length [],.dict false [] 0],fr⟩:=by
 unfold jv oH
 rw[hd]
 show RF.rec (motive:=λ _=>RV) .no (λ σ'=>.ok (.ref (Nat.succ st.length)) ⟨σ'.st,fr⟩) (λ _=>.no) (λ _=>.no) (λ _ _=>.no) (bf ⟨[],d,D.hn,D.kt⟩ ⟨st++[.attrs 137 [none,none,none,none] 0]++[.inst 137 st.length []],[some (.ref (st.length+1)),some .none,none,none]⟩)=_
 rw[aR]
 have s0:oD false ⟨[],d,D.hn,D.kt⟩ ⟨st++(.attrs 137 [none,none,none,none] 0:: .inst 137 st.length []::[]),[some (.ref (st.length+1)),some .none,none,none]⟩= .ok (.ref (st.length+2)) ⟨st++(.attrs 137 [none,none,none,none] 0:: .inst 137 st.length []::[.dict false [] 0]),[some (.ref (st.length+1)),some .none,none,none]⟩:=by
  unfold oD
  rw[aR]
  simp
 have h:bf ⟨[],d,D.hn,D.kt⟩ ⟨st++(.attrs 137 [none,none,none,none] 0:: .inst 137 st.length []::[]),[some (.ref (st.length+1)),some .none,none,none]⟩= .nx ⟨st++[.attrs 137 [some (.ref (st.length+2)),some .none,some (.int 0),some (.int 0)] 4,.inst 137 st.length [],.dict false [] 0],[some (.ref (st.length+1)),some .none,none,none]⟩:=by
  unfold bf
  rw[bP (wK (l:=[]) rfl rfl (by decide) (by decide) s0),bP (wK (v:=.none) (l2:=[.dict false [] 0]) rfl rfl (by simp) (by decide) rfl),bP (wK (v:=.int 0) (l2:=[.dict false [] 0]) rfl rfl (by simp) (by decide) rfl),bP (wK (v:=.int 0) (l2:=[.dict false [] 0]) rfl rfl (by simp) (by decide) rfl)]
  rfl
 have h:bf ⟨[],d,D.hn,D.kt⟩ ⟨st++([.attrs 137 [none,none,none,none] 0]++[.inst 137 st.length []]),[some (.ref (st.length+1)),some .none,none,none]⟩=_:=h
 rw[h]
theorem yt {env:VE}{d:Nat}(hd:D.d=d+2)(σ:AS)(R:Rel OS D X W env σ):∃r st' π,jv (oH 137 4 0 1 4 [.none] bf) D σ= .ok (.ref r) ⟨st',σ.fr⟩/\σ.st<+:st'/\SW st' r π rU/\∀p∈π,σ.st.length<=p:=by
 refine⟨σ.st.length+1,_,[σ.st.length+1,σ.st.length,σ.st.length+2],vQ hd,ai _ _,?_,λ p hp=>?_⟩
 ·have at0:∀{k:Nat} {o:AO} {l:List AO},l[k]? =some o->(σ.st++l)[σ.st.length+k]? =some o:=λ{k o l} h=>by
   rw[az (sk),show σ.st.length+k - σ.st.length=k by exact ω53];exact h
  refine .fresh (kvs:=[]) (at0 (k:=1) rfl) (at0 (k:=0) rfl) (at0 (k:=2) rfl) rfl rfl (.nil 3) ?_
  simp
 ·simp at hp
  exact ω211 hp
end
theorem qa {g:RG}{enc e:List AO}{fl:List AV}(h:stM g enc fl=some e):∃v st2 π2,g 4 true c_ (.ref 0::fl) enc=some (v,st2)/\fY 0 st2=some (π2,e)/\bV 137 (.ref 0) e=true:=by
 refine aQ (Op.inv h (by nofun)) λ z1_ h1 h2=>?_;obtain⟨v,st2⟩:=z1_
 refine aQ (Op.inv h2 (by nofun)) λ z1_ h3 h4=>?_;obtain⟨π2,e'⟩:=z1_
 refine ay h4 λ h5 h6=>?_
 cases h6
 exact⟨v,st2,π2,h1,h3,h5⟩
noncomputable def vN (N:List (List Int)):List (List AV):=N.map λ l=>l.map .int
structure NOk (m:Nat) (N:List (List Int)):Prop where
 hm:m=4∨m=5
 len:N.length=m
 enc:uy m N=true
 sub:∀(k:Nat) (l:List Int),N[k]? =some l->l.Nodup/\∀j∈l,0<=j/\j<k
theorem pt {m:Nat}(hm:m=4∨m=5)(k:Int):k∈cz m↔0<=k/\k<m:=by
 rcases hm with rfl|rfl
 ·refine⟨λ h=>?_,tV⟩
  have h:k∈[(0:Int),1,2,3]:=h
  simp only[List.mem_cons,bh,or_false]at h
  exact ω405 h
 ·refine⟨λ h=>?_,pu⟩
  have h:k∈[(0:Int),1,2,3,4]:=h
  simp only[List.mem_cons,bh,or_false]at h
  exact ω406 h
theorem kD {m:Nat}(hm:m=4∨m=5):(cz m).Nodup/\(cz m).length=m:=by
 rcases hm with rfl|rfl
 ·exact⟨jZ.mp rfl,rfl⟩
 ·exact⟨jZ.mp rfl,rfl⟩
theorem yr {N:List (List Int)}{k:Nat}{l:List Int}(h:N[k]? =some l):dw N (k:Int)=l:=by
 unfold dw
 show Op.b (cy N k) [] id=_
 rw[aS,h]
 rfl
section
variable{m:Nat}{N:List (List Int)}
theorem NOk.at' (H:NOk m N){k:Int}(h:0<=k/\k<m):N[k.toNat]? =some (dw N k):=by
 have:k.toNat<N.length:=by rw[H.len];exact w_ h
 rw[ae this]
 have e:=yr (ae this)
 rw[show((k.toNat:Nat):Int)=k by exact w9 h]at e
 rw[e]
theorem NOk.gr (H:NOk m N):Gr m (cz m) (fE m N) (dw N) where
 nd:=(kD H.hm).1
 mem:=pt H.hm
 len:=(kD H.hm).2
 nnd:=λ k hk=>(H.sub _ _ (H.at' ((pt H.hm k).mp hk))).1
 nlt:=λ k hk j hj=>by
  have h:=(pt H.hm k).mp hk
  have:=(H.sub _ _ (H.at' h)).2 j hj
  exact ω409 this
 sc:=λ k hk=>by
  refine⟨js (λ s=>eg k (dw N s)) (cz m),?_,?_,λ s=>?_⟩
  ·unfold fE
   rw[aB,eH hk]
   rfl
  ·rw[fS]
   exact(kD H.hm).1.filter _
  ·rw[fS,List.mem_filter,d9]
theorem NOk.five (H:NOk m N){l:List Int}(h:l∈N):l.length<=5:=by
 refine eE (List.getElem?_of_mem h) λ k hk=>?_
 have s:=H.sub k l hk
 have lt:=(aa.mp hk).1
 rw[H.len]at lt
 have h5:m<=5:=by rcases H.hm with e|e<;>lia
 exact ky (b:=R5) s.1 λ j hj=>pu (by have:=s.2 j hj;exact ω401 this lt h5)
theorem NOk.ok (H:NOk m N):wP (cz m) (fE m N):=λ l hl=>by
 unfold fE at hl
 refine aQ (List.mem_map.mp hl) λ k hk z1_=>?_;subst z1_
 rw[fS]
 refine⟨λ s hs=>(List.mem_filter.mp hs).1,?_⟩
 have:=List.length_filter_le (λ s=>eg k (dw N s)) (cz m)
 rw[(kD H.hm).2]at this
 have h5:m<=5:=by rcases H.hm with e|e<;>lia
 exact ω402 this h5
theorem NOk.l1:(S0 m N).np.length=(cz m).length:=aD ..
theorem NOk.l2:(fE m N).length=(cz m).length:=aD ..
theorem NOk.inv (H:NOk m N):Inv (cz m) (dw N) [] [] (S0 m N) where
 np:=by
  refine⟨NOk.l1,λ k hk=>?_⟩
  show(npN m N)[_]? =_
  unfold npN
  rw[aB,eH hk]
  show some _=some (if k∈[]then(-2:Int)else if k∈[]then -1 else _)
  rw[if_neg bh,if_neg bh]
  refine congrArg some (congrArg Int.ofNat ?_)
  induction dw N k with
  |nil=>rfl
  |cons a l ih=>rw[bL,hG,if_neg bh,ih,Nat.add_comm]
 rnd:=by
  show(js _ _).Nodup
  rw[fS]
  exact(kD H.hm).1.filter _
 rdy:=λ k=>by
  show k∈js _ _↔_
  rw[fS,List.mem_filter]
  refine and_congr_right λ _=>⟨λ h=>⟨bh,bh,?_⟩,λ h=>?_⟩
  ·revert h
   cases dw N k with
   |nil=>exact λ _=>rfl
   |cons a l=>exact λ h=>by cases h
  ·have:=h.2.2
   revert this
   cases dw N k with
   |nil=>exact λ _=>rfl
   |cons a l=>exact λ h=>by rw[hG,if_neg bh]at h;exact(xa h).elim
 fin:=rfl
 psd:=rfl
 wnd:=List.nodup_nil
 dnd:=List.nodup_nil
 ok:=λ k h=>by cases h
 dk:=λ k h=>by cases h
 dcl:=λ k h=>by cases h
theorem NOk.e6 (H:NOk m N):∃e,adL N 0 rU=some e/\stM ppG e []=some (bY 137 40 m (cz m) (fE m N) (S0 m N)):=by
 refine Op.elim H.enc λ e h1 h2=>?_
 have h3:=lT zw h2
 subst h3
 exact Op.elim h1 λ e h4 h5=>⟨e,h4,h5⟩
theorem wp {keys:List Int}{sc:List (List Int)}{S:fb}{ep:Nat}(l1:S.np.length=keys.length)(l2:sc.length=keys.length){π:List Nat}{st:List AO}{r:Nat}(h:fY r st=some (π,bY 137 40 ep keys sc S)):π.length=4+3*keys.length:=by
 have h1:=(eG h).iso (fl:=[]) (λ v hv=>by cases hv)
 have h0:=(mu (TS:=137) (NI:=40) (ep:=ep) l1 l2 []).sel
 rw[List.append_nil]at h0
 have h2:=(eG h0).iso (fl:=[]) (λ v hv=>by cases hv)
 rw[← h1.1.len,h2.1.len,List.length_range]
theorem sO {D:Dn}{X W:Nat->Prop}{env:VE}{s:SF}{o:pV}{i r ep:Nat}{keys:List Int}{sc:List (List Int)}{S:fb}{π:List Nat}(h:env[i]? =some (some (.obj r π (bY 137 40 ep keys sc S))))(l1:S.np.length=keys.length)(l2:sc.length=keys.length)(H:π.length=4+3*keys.length->SX OS D X W env s o):SX OS D X W env s o:=λ σ R=>by
 refine bW (R.at' i _ h) λ v0 h1 z1_ h2=>?_
 exact H (wp l1 l2 (show fY r σ.st=_ from h2)) σ R
theorem um (l:List Int):∀v∈l.map AV.int,flat v=true:=λ v hv=>by refine aQ (List.mem_map.mp hv) λ x _ z1_=>?_;subst z1_;rfl
noncomputable abbrev ADg:RG:=tz 2 6 bT
noncomputable abbrev GRg:RG:=mH 1 4 bB
noncomputable abbrev DNg:RG:=tz 1 8 bS
noncomputable abbrev jM:Nat->Prop:=λ _=>False
noncomputable def fF (k n:Nat):List AV:=(List.range' k n).map λ j:Nat=>AV.int (j:Int)
theorem kH (k n:Nat):fF k (n+1)= .int (k:Int)::fF (k+1) n:=by
 unfold fF
 rw[List.range'_succ]
 rfl
theorem iX (n:Nat):((List.range n).map λ j:Nat=>AV.int (0+(j:Int)*1))=fF 0 n:=by
 unfold fF
 rw[List.range_eq_range']
 refine List.map_congr_left λ j _=>?_
 rw[Int.mul_one,Int.zero_add]
theorem EI.cast {O:ei}{D:Dn}{X W M:Nat->Prop}{env:VE}{e:EF}{n:Nat}{V V':List (Vl n)}(h:EI O D X W M env e n V)(q:V=V'):EI O D X W M env e n V':=q▸h
theorem EX.cast {O:ei}{D:Dn}{X W:Nat->Prop}{env:VE}{e:EF}{n:Nat}{V V':Vl n}(h:EX O D X W env e n V)(q:V=V'):EX O D X W env e n V':=q▸h
theorem ET.cast {O:ei}{D:Dn}{X W:Nat->Prop}{env:VE}{e:TF}{V V':Bool}(h:ET O D X W env e V)(q:V=V'):ET O D X W env e V':=q▸h
theorem sH {k:Nat}{l:List Int}(h:N[k]? =some l):(vN N)[k]? =some (l.map AV.int):=by unfold vN;rw[aB,h];rfl
theorem fW:(vN N).length=N.length:=aD ..
theorem dc {k n:Nat}(h:k<n):bE (k:Int) n=some k:=by
 show(match Nat.ble n k with|true=>none|false=>some k)=_
 cases q:Nat.ble n k with
 |true=>exact absurd (aO q) (Nat.not_le_of_lt h)
 |false=>rfl
theorem u_ (H:NOk m N){D:Dn}(hn:D.hn=true)(hd:5<=D.d)(hc:D.cs=[]){Y:Nat->Prop}{r:Nat}{e:List AO}:∀(rest:List (List Int)) (k:Nat) (π:List Nat) (enc:List AO) (w2:Option VV),(∀(i:Nat) l,rest[i]? =some l->N[k+i]? =some l)->bV 137 (.ref 0) enc=true->adL rest k enc=some e->
  FX OS D Y jM 2 0 (ao (cu (ir 137 (fK 4 c_ fJ ADg) (cV 1) (aq (cV 2) (n8 (bN (cV 0) (cV 2)) (aI))))) (aC)) [some (.val 2 (vN N)),some (.obj r π enc),w2] (fF k rest.length)
   (.ex λ q=>bV 137 (.ref 0) e=true/\∃π' w2',q=[some (.val 2 (vN N)),some (.obj r π' e),w2'])
 |[],k,π,enc,w2,hN,hI,h=>by
  cases h
  exact .nilE _ _ ⟨hI,π,w2,rfl⟩
 |n::rest,k,π,enc,w2,hN,hI,h=>by
  have h:Op.b (stM adG enc (.int (Int.ofNat k)::n.map .int)) none (λ e=>adL rest (Nat.succ k) e)=some e:=h
  refine Op.elim h λ e1 h1 h2=>?_
  refine eX (qa h1) λ v st2 π2 g1 g2 g3=>?_
  have hk:=hN 0 n rfl
  rw[Nat.add_zero]at hk
  have hn5:=H.five (ac hk)
  have hlt:=(aa.mp hk).1
  rw[bL,kH]
  have hm5:N.length<=5:=by rw[H.len];rcases H.hm with e|e<;>lia
  refine .nextE _ (λ q=>∃π',q=[some (.val 2 (vN N)),some (.obj r π' e1),some (.val 0 (.int (k:Int)))]) _ _ _ (d5 (p8 (fl:=.int (k:Int)::n.map .int) (enc:=enc) (enc':=e1) (π2:=π2) (st2:=st2) (v:=v) rfl hn hd hI (kU (bJ rfl) (uA (EX.list (dU (n:=1) (xs:=vN N) (i:=k) (k:=k) (V:=(n.map AV.int:List AV)) (EX.list (bJ rfl)) (bJ rfl) (by show(vN N).length<=1000;rw[fW];exact jA hm5) (by show bE _ (vN N).length=_;rw[fW];exact dc hlt) (sH hk))) (cg _ (jA hn5)))) ?_ g1 g2) λ q hq=>?_) ?_ ?_
  ·intro x hx
   rcases List.mem_cons.mp hx with rfl|hx
   ·rfl
   ·exact um _ x hx
  ·refine aQ hq λ π' _ z1_=>?_;clear hq;subst z1_
   exact SX.ex eT ⟨π',rfl⟩
  ·intro q hq;refine eE hq λ _ z1_=>?_;clear hq;subst z1_;simp
  ·intro q hq
   refine eE hq λ π' z1_=>?_;clear hq;subst z1_
   exact u_ H hn hd hc rest (k+1) π' e1 _ (λ i l hi=>by rw[show k+1+i=k+(i+1)by exact vh];exact hN (i+1) l hi) g3 h2
theorem lL (H:NOk m N){d:Nat}(hd:5<=d){kt:Nat->Option (List AV)}(Y:Nat->Prop):SO ⟨[],d,true,kt⟩ Y (jt [.mk 2 (vN N)] 3) c0 (bY 137 40 m (cz m) (fE m N) (S0 m N)):=by
 refine aQ H.e6 λ e h1 h2=>?_
 refine eX (qa h2) λ v6 st6 π6 g1 g2 g3=>?_
 show SO ⟨[],d,true,kt⟩ Y [some (.val 2 (vN N)),none,none] c0 _
 unfold c0
 have hm5:N.length<=5:=by rw[H.len];rcases H.hm with e|e<;>lia
 refine mx (sM (by simp) (λ k h=>by cases h) (yt (d:=d - 2) (by show d=d - 2+2;exact ω404 hd))) λ q hq=>?_
 refine vf hq λ r π z1_=>?_;clear hq;subst z1_
 have hr:EI OS ⟨[],d,true,kt⟩ Y jM (bl Y jM [some (.val 2 (vN N)),some (.obj r π rU),none]) [some (.val 2 (vN N)),some (.obj r π rU),none] (aP bH (aq (aP dJ (aq (cV 0) (aI))) (aI))) 0 (fF 0 N.length):=
  (fC (ts:=[(N.length:Int)]) (a:=0) (b:=N.length) (c:=1) (n:=N.length) (bc (EX.cast (m_ (n:=1) (xs:=vN N) (EX.list (bJ rfl)) (by show(vN N).length<=1000;rw[fW];exact jA hm5)) (by show AV.int ((vN N).length:Int)=_;rw[fW])) ci) rfl (by rw[H.len];rcases H.hm with rfl|rfl<;>decide) (by rw[H.len];rcases H.hm with rfl|rfl<;>decide)).cast (iX _)
 refine mx (iE (n:=0) (i:=2) (xs:=fF 0 N.length) rfl (by simp) (λ k h=>by cases h) (by show(fF 0 N.length).length<64;unfold fF;rw[aD,List.length_range'];exact sz hm5) hr (u_ H rfl hd rfl N 0 π rU none (λ i l h=>by rw[Nat.zero_add];exact h) rfl h1)) λ q hq=>?_
 refine wx hq λ hI π' w2' z1_=>?_;clear hq;subst z1_
 refine mx (sN (enc:=e) (enc':=bY 137 40 m (cz m) (fE m N) (S0 m N)) (π2:=π6) (st2:=st6) (v:=v6) rfl rfl (by show 5<=d;exact hd) hI g1 g2) λ q hq=>?_
 refine aQ hq λ π' hπ z1_=>?_;clear hq;subst z1_
 exact yc rfl
end
section
variable{D:Dn}{X W:Nat->Prop}{env:VE}
theorem rq {C0:Addr}{d0 s r:Nat}{kt:Nat->Option (List AV)}{g:RG}{π:List Nat}{enc enc' st2:List AO}{v:AV}(h:env[s]? =some (some (.obj r π enc)))(hn:D.hn=true)(hd:d0+1<=D.d)(hI:bV C0 (.ref 0) enc=true)
  (hg:g d0 true kt [.ref 0] enc=some (v,st2)) (hs:fY 0 st2=some (List.range π.length,enc')):
  SX OS D X W env (cu (dZ C0 (fK d0 kt fJ g) (cV s))) (.nx (env.set s (some (.obj r π enc')))):=λ σ R=>by
 have:=j' (C0:=C0) (d0:=d0) (kt:=kt) (g:=g) h hn hd hI (i9 (D:=D)) (λ v hv=>by cases hv) hg hs σ R
 unfold cu at this ⊢
 rw[mK]
 exact this
theorem n6 {need:Int->List Int}{x:Int}:∀{o dn:List Int},Lin need o dn->(∀j∈need x,j∈dn++o)->Lin need (o++[x]) dn
 |[],dn,_,h=>⟨λ j hj=>by have:=h j hj;rwa [List.append_nil]at this,trivial⟩
 |a::o,dn,l,h=>⟨l.1,n6 (o:=o) l.2 λ j hj=>by have:=h j hj;rw[aR];exact this⟩
theorem l5 {w:List Int}{i:Nat}{y:Int}(nd:w.Nodup)(h:w[i]? =some y):(w.eraseIdx i).Nodup/\(∀x,x∈w.eraseIdx i↔x∈w/\x≠y)/\(w.eraseIdx i).length+1=w.length:=by
 refine eE (aa.mp h) λ hi hy=>?_
 refine⟨nd.sublist (List.eraseIdx_sublist _ _),λ x=>?_,?_⟩
 ·rw[List.mem_eraseIdx_iff_getElem?]
  refine⟨λ⟨j,hj,hx⟩=>⟨ac hx,λ e=>?_⟩,λ⟨hx,hn⟩=>?_⟩
  ·subst e
   exact hj ((List.getElem?_inj (aa.mp hx).1 nd).mp (hx.trans h.symm))
  ·refine eE (List.getElem?_of_mem hx) λ j hj=>?_
   refine⟨j,λ e=>?_,hj⟩
   rw[e,h]at hj
   exact hn (aj hj).symm
 ·rw[List.length_eraseIdx_of_lt hi]
  exact ω421 hi
theorem vT {l:List Int}:∀{i:Nat},(l.map AV.int).eraseIdx i=(l.eraseIdx i).map AV.int:=by
 induction l with
 |nil=>intro i;rfl
 |cons a l ih=>
  intro i
  cases i with
  |zero=>rfl
  |succ i=>exact congrArg (AV.int a::·) ih
theorem vP (n:Nat):bE (-1) (n+1)=some n:=rfl
end
section
variable{m:Nat}{N:List (List Int)}{D:Dn}{tb:Tb}{nums:List AV}
theorem NOk.m5 (H:NOk m N):m<=5/\4<=m:=by rcases H.hm with e|e<;>lia
theorem qD (H:NOk m N){dn w:List Int}{S:fb}(I:Inv (cz m) (dw N) dn w S)(hb:S.bd<=800):∃st2,GRg 4 true c_ [.ref 0] (bY 137 40 m (cz m) (fE m N) S)=some (.ref (bY 137 40 m (cz m) (fE m N) S).length,st2)/\st2[(bY 137 40 m (cz m) (fE m N) S).length]? =some (.tup (S.rdy.map .int))/\fY 0 st2=some (List.range (4+3*(cz m).length),bY 137 40 m (cz m) (fE m N) (gR (cz m) S)):=by
 have hr:=I.rl H.gr
 have h5:=H.m5
 refine bW (yT (TS:=137) (NI:=40) (ep:=m) (d:=4) (kt:=c_) (S:=S) H.gr.nd I.l1 (NOk.l2 (N:=N)) (ω427 hb) (ω428 hr h5) (λ k hk=>((I.rdy k).mp hk).1)) λ st2 g1 g2 g3=>?_
 exact⟨st2,g1,g2,g3.sel⟩
theorem qT (H:NOk m N){dn w:List Int}{S:fb}(I:Inv (cz m) (dw N) dn w S)(hb:S.bd<=800)(hr:S.rdy=[]){k:Int}(hk:k∈w):∃st2,DNg 4 true c_ (.ref 0::[.int k]) (bY 137 40 m (cz m) (fE m N) S)=some (.none,st2)/\fY 0 st2=some (List.range (4+3*(cz m).length),bY 137 40 m (cz m) (fE m N) (dn1 (cz m) (fE m N) S k)):=by
 have hk0:=(I.ok k hk).1
 refine aQ (zc (TS:=137) (NI:=40) (ep:=m) (d:=4) (kt:=c_) (S:=S) (ks:=[k]) H.gr.nd H.ok I.l1 NOk.l2 (by show 1<=5;decide) hb (by rw[hr];decide) (λ x hx=>by rw[List.mem_singleton.mp hx];exact hk0) (by
  show Op.b (cy S.np (bI (cz m) k)) false (λ n=>bb (n == -1) true false)=true
  rw[aS,I.np_at hk]
  rfl)) λ st2 g1 g3=>?_
 exact⟨st2,g1,g3.sel⟩
noncomputable abbrev ordB (tb:Tb):SF:=ao (cu (cc .list i5 (cV 4) (aq (dZ 137 (fK 4 c_ fJ GRg) (cV 2)) (aI)))) (ao (dL (p7 (lb false (cV 4) (dj (aI))) (p7 (lx (tE (dZ 137 (cm 1 1 bx) (cV 2)))) (gH))) (ao (cE (dj (aI))) (aC)) (aC)) (ao (cu (cc .list cD (cV 3) (aq (cc .list gi (cV 4) (aq (hO tb (bN (cV 1) (cV 5)) (aP dJ (aq (cV 4) (aI)))) (aI))) (aI)))) (ao (cu (ir 137 (fK 4 c_ fJ DNg) (cV 2) (aq (bN (cV 3) (nz (cC (.int 1)))) (aI)))) (aC))))
theorem tI (H:NOk m N)(hn:D.hn=true)(hd:5<=D.d){dn w:List Int}{S:fb}(I:Inv (cz m) (dw N) dn w S)(hk:dn.length<m)(hb:S.bd<=5+2*dn.length){x:AV}(hx:nums[dn.length]? =some x)(hlen:nums.length<=100)(hmod:∀n:Nat,1<=n->n<=5->∃c:Nat,mN tb x n=some (c:Int)/\c<n):
  ∃y w' S',Inv (cz m) (dw N) (dn++[y]) w' S'/\S'.bd<=5+2*(dn.length+1)/\(∀j∈dw N y,j∈dn)/\∀(Y:Nat->Prop) (r a b:Nat) (π:List Nat),π.length=4+3*(cz m).length->
   SX OS D Y jM [some (.val 2 (vN N)),some (.val 1 nums),some (.obj r π (bY 137 40 m (cz m) (fE m N) S)),some (.own a 0 (dn.map AV.int:List AV)),some (.own b 0 (w.map AV.int:List AV)),some (.val 0 (.int dn.length))] (ordB tb)
    (.nx [some (.val 2 (vN N)),some (.val 1 nums),some (.obj r π (bY 137 40 m (cz m) (fE m N) S')),some (.own a 0 ((dn++[y]).map AV.int:List AV)),some (.own b 0 (w'.map AV.int:List AV)),some (.val 0 (.int dn.length))]):=by
 have h5:=H.m5
 have rl:=I.rl H.gr
 refine eE (I.some H.gr hk) λ z hz=>?_
 have hpos:1<=(w++S.rdy).length:=List.length_pos_of_mem hz
 refine aQ (hmod (w++S.rdy).length hpos (ω410 h5 rl)) λ c hc hcl=>?_
 have hy:(w++S.rdy)[c]? =some (w++S.rdy)[c]:=ae hcl
 generalize(w++S.rdy)[c]=y at hy
 have I1:=I.gr
 refine fT (l5 I1.wnd hy) λ f1 f2 f3=>?_
 have hyw:=ac hy
 refine eA (I1.dn1 H.gr rfl hyw f1 f2 f3) λ I2 hbd=>?_
 refine bW (qD H I (ω411 hb hk h5)) λ st2 g1 g2 g3=>?_
 have hb1:(gR (cz m) S).bd=S.bd+1:=rfl
 refine aQ (qT H I1 (ω412 hb1 hb hk h5) rfl hyw) λ st3 d1 d2=>?_
 have act:nH (gR (cz m) S)=true:=by
  unfold nH
  have e1:=I1.fin
  have e2:=I1.psd
  have:decide ((gR (cz m) S).fin<(gR (cz m) S).psd)=true:=by rw[e1,e2];exact decide_eq_true (ω413 f3)
  rw[this]
  rfl
 refine⟨y,_,_,I2,by exact ω414 hbd hb1 hb,fk.mp (I1.ok y hyw).2.2,λ Y r a b π hπ=>?_⟩
 have s1:=vp (D:=D) (X:=Y) (W:=jM) (env:=[some (.val 2 (vN N)),some (.val 1 nums),some (.obj r π (bY 137 40 m (cz m) (fE m N) S)),some (.own a 0 (dn.map AV.int:List AV)),some (.own b 0 (w.map AV.int:List AV)),some (.val 0 (.int dn.length))]) (s:=2) (w:=4) (a:=b) (g:=GRg) (kt:=c_) (d0:=4) (by decide) rfl rfl hn hd (show bV 137 (.ref 0) (bY 137 40 m (cz m) (fE m N) S)=true from rfl) g1 g2 (List.all_eq_true.mpr (um _)) (by rw[hπ];exact g3) (by rw[aD,aD];exact ω415 rl h5)
 rw[← List.map_append]at s1
 refine b8 s1 ?_
 show SX OS D Y jM [some (.val 2 (vN N)),some (.val 1 nums),some (.obj r π (bY 137 40 m (cz m) (fE m N) (gR (cz m) S))),some (.own a 0 (dn.map AV.int:List AV)),some (.own b 0 ((w++S.rdy).map AV.int:List AV)),some (.val 0 (.int dn.length))] _ _
 have t1:ET OS D Y jM [some (.val 2 (vN N)),some (.val 1 nums),some (.obj r π (bY 137 40 m (cz m) (fE m N) (gR (cz m) S))),some (.own a 0 (dn.map AV.int:List AV)),some (.own b 0 ((w++S.rdy).map AV.int:List AV)),some (.val 0 (.int dn.length))] (lb false (cV 4) (dj (aI))) false:=(nb (ns:=w++S.rdy) (ms:=[]) (pJ rfl) (EX.list (g7 (n:=0) (xs:=[]) ci (by decide))) (sy h5 rl) (by decide)).cast (by
  cases q:w++S.rdy with
  |nil=>rw[q]at hpos;exact absurd hpos (by decide)
  |cons=>rfl)
 have t2:ET OS D Y jM [some (.val 2 (vN N)),some (.val 1 nums),some (.obj r π (bY 137 40 m (cz m) (fE m N) (gR (cz m) S))),some (.own a 0 (dn.map AV.int:List AV)),some (.own b 0 ((w++S.rdy).map AV.int:List AV)),some (.val 0 (.int dn.length))] (lx (tE (dZ 137 (cm 1 1 bx) (cV 2)))) false:=(uv (wj (ut (TS:=137) (s:=2) (dd:=D.d - 1) hn (sx hd) rfl H.gr.nd I1.l1 NOk.l2 (Nat.zero_le _)))).cast (by rw[act];rfl)
 refine b8 (lK (kQ t1 (kQ t2 kR)) eT) ?_
 have s3:=rB (D:=D) (X:=Y) (W:=jM) (env:=[some (.val 2 (vN N)),some (.val 1 nums),some (.obj r π (bY 137 40 m (cz m) (fE m N) (gR (cz m) S))),some (.own a 0 (dn.map AV.int:List AV)),some (.own b 0 ((w++S.rdy).map AV.int:List AV)),some (.val 0 (.int dn.length))]) (ie:=hO tb (bN (cV 1) (cV 5)) (aP dJ (aq (cV 4) (aI)))) (oi:=3) (w:=4) (a:=a) (b:=b) (k:=c) (xs:=dn.map AV.int) (ys:=(w++S.rdy).map AV.int) (v:=.int y) (by decide) rfl rfl (by rw[aB,hy];rfl)
  (qL (x:=x) (n:=(w++S.rdy).length) (dU (n:=0) (xs:=nums) (i:=dn.length) (k:=dn.length) (V:=x) (EX.list (bJ rfl)) (bJ rfl) (by show List.length (α:=AV) nums<=_;exact xb hlen) (dc (aa.mp hx).1) hx) (EX.cast (m_ (n:=0) (xs:=(w++S.rdy).map AV.int) (pJ rfl) (cg _ (sy h5 rl))) (by show AV.int (((w++S.rdy).map AV.int).length:Int)=_;rw[aD])) hc) (cg _ (ω418 hk h5)) (cg _ (sy h5 rl))
 rw[vT,show((dn.map AV.int:List AV)++[AV.int y]:List AV)=(dn++[y]).map AV.int by rw[List.map_append];rfl]at s3
 refine b8 s3 ?_
 show SX OS D Y jM [some (.val 2 (vN N)),some (.val 1 nums),some (.obj r π (bY 137 40 m (cz m) (fE m N) (gR (cz m) S))),some (.own a 0 ((dn++[y]).map AV.int:List AV)),some (.own b 0 (((w++S.rdy).eraseIdx c).map AV.int:List AV)),some (.val 0 (.int dn.length))] _ _
 refine b8 (j' (fl:=[.int y]) (kt:=c_) (g:=DNg) (d0:=4) (s:=2) rfl hn hd (show bV 137 (.ref 0) (bY 137 40 m (cz m) (fE m N) (gR (cz m) S))=true from rfl) (kU (dU (n:=0) (xs:=((dn++[y]).map AV.int:List AV)) (i:=-1) (k:=dn.length) (V:=AV.int y) (pJ rfl) (pH (cS rfl)) (cg _ (by rw[aU];show _+1<=_;exact ω419 hk h5)) (by show bE (-1) ((dn++[y]).map AV.int).length=_;rw[aD,aU];exact vP _) (by show((dn++[y]).map AV.int)[dn.length]? =_;rw[aB,az (Nat.le_refl _),Nat.sub_self];rfl)) i9) (λ v hv=>by rw[List.mem_singleton.mp hv];rfl) d1 (by rw[hπ];exact d2)) ?_
 exact eT
theorem tJ (H:NOk m N)(hn:D.hn=true)(hd:5<=D.d)(hlen:nums.length<=100)(hnum:∀k,k<m->∃x,nums[k]? =some x/\∀n:Nat,1<=n->n<=5->∃c:Nat,mN tb x n=some (c:Int)/\c<n):∀(n:Nat) (dn w:List Int) (S:fb),dn.length+n=m->Inv (cz m) (dw N) dn w S->S.bd<=5+2*dn.length->Lin (dw N) dn []->
  ∃o,Ord m o/\LO (dw N) o []/\∀(Y:Nat->Prop) (r a b:Nat) (π:List Nat) (w5:Option VV),π.length=4+3*(cz m).length->
   FX OS D Y jM 5 0 (ordB tb) [some (.val 2 (vN N)),some (.val 1 nums),some (.obj r π (bY 137 40 m (cz m) (fE m N) S)),some (.own a 0 (dn.map AV.int:List AV)),some (.own b 0 (w.map AV.int:List AV)),w5] (fF dn.length n)
    (.ex λ q=>∃enc w4 w5',q=[some (.val 2 (vN N)),some (.val 1 nums),some (.obj r π enc),some (.own a 0 (o.map AV.int:List AV)),w4,w5'])
 |0,dn,w,S,hl,I,hb,L=>⟨dn,⟨I.dnd,hl,λ k hk=>(H.gr.mem k).mp (I.dk k hk)⟩,⟨I.dnd,L⟩,λ Y r a b π w5 hπ=>.nilE _ _ ⟨_,_,_,rfl⟩⟩
 |n+1,dn,w,S,hl,I,hb,L=>by
  refine aQ (hnum dn.length (w8 hl)) λ x hx hmod=>?_
  refine eI (tI (tb:=tb) H hn hd I (w8 hl) hb hx hlen hmod) λ y w' S' I' hb' hy hs=>?_
  have hl1:(dn++[y]).length=dn.length+1:=by rw[aU];rfl
  refine bW (tJ H hn hd hlen hnum n (dn++[y]) w' S' (ω422 hl1 hl) I' (by rw[hl1];exact hb') (n6 L λ j hj=>by rw[List.nil_append];exact hy j hj)) λ o h1 h2 h3=>?_
  refine⟨o,h1,h2,λ Y r a b π w5 hπ=>?_⟩
  rw[kH]
  have:=h3 Y r a b π (some (.val 0 (.int dn.length))) hπ
  rw[hl1]at this
  exact .next _ _ _ _ _ (hs Y r a b π hπ) (by simp) this
theorem tH (H:NOk m N){d:Nat}(hd:6<=d){kt:Nat->Option (List AV)}(hlen:nums.length<=100)(hnum:∀k,k<m->∃x,nums[k]? =some x/\∀n:Nat,1<=n->n<=5->∃c:Nat,mN tb x n=some (c:Int)/\c<n):
  ∃o,Ord m o/\LO (dw N) o []/\∀Y,SX OS ⟨[],d,true,kt⟩ Y jM (jt [.mk 2 (vN N),.mk 1 nums] 6) (eR tb) (.rt 1 (o.map AV.int:List AV)):=by
 have h5:=H.m5
 refine bW (tJ (D:=⟨[],d,true,kt⟩) (tb:=tb) H rfl (Nat.le_of_succ_le hd) hlen hnum m [] [] (S0 m N) (Nat.zero_add m) H.inv (Nat.le_refl _) trivial) λ o h1 h2 h3=>?_
 refine⟨o,h1,h2,λ Y=>?_⟩
 show SX OS ⟨[],d,true,kt⟩ Y jM [some (.val 2 (vN N)),some (.val 1 nums),none,none,none,none] _ _
 unfold eR
 refine d5 (nM (d:=d - 1) (ts:=[.mk 2 (vN N)]) (by simp) (λ k h=>by cases h) (by show d=d - 1+1;exact sv hd) (bc (bJ rfl) ci) (by simp) rfl (lL H (wZ hd))) λ q hq=>?_
 refine vf hq λ r π z1_=>?_;clear hq;subst z1_
 refine sL (i:=3) (n:=0) (xs:=[]) (by simp) (λ k h=>by cases h) ci (by decide) λ a=>?_
 refine sL (i:=4) (n:=0) (xs:=[]) (by simp) (λ k h=>by cases h) ci (by decide) λ b=>?_
 show SX OS ⟨[],d,true,kt⟩ Y jM [some (.val 2 (vN N)),some (.val 1 nums),some (.obj r π (bY 137 40 m (cz m) (fE m N) (S0 m N))),some (.own a 0 ([]:List AV)),some (.own b 0 ([]:List AV)),none] _ _
 refine sO (i:=2) rfl NOk.l1 NOk.l2 λ hπ=>?_
 have hr:EI OS ⟨[],d,true,kt⟩ Y jM (bl Y jM [some (.val 2 (vN N)),some (.val 1 nums),some (.obj r π (bY 137 40 m (cz m) (fE m N) (S0 m N))),some (.own a 0 ([]:List AV)),some (.own b 0 ([]:List AV)),none]) [some (.val 2 (vN N)),some (.val 1 nums),some (.obj r π (bY 137 40 m (cz m) (fE m N) (S0 m N))),some (.own a 0 ([]:List AV)),some (.own b 0 ([]:List AV)),none] (aP bH (aq (aP dJ (aq (cV 0) (aI))) (aI))) 0 (fF 0 m):=
  (fC (ts:=[(m:Int)]) (a:=0) (b:=m) (c:=1) (n:=m) (bc (EX.cast (m_ (n:=1) (xs:=vN N) (EX.list (bJ rfl)) (by show(vN N).length<=1000;rw[fW,H.len];exact iw h5)) (by show AV.int ((vN N).length:Int)=_;rw[fW,H.len])) ci) rfl (by rcases H.hm with rfl|rfl<;>decide) (by rcases H.hm with rfl|rfl<;>decide)).cast (iX _)
 refine d5 (iE (n:=0) (i:=5) (xs:=fF 0 m) rfl (by simp) (λ k h=>by cases h) (by show(fF 0 m).length<64;unfold fF;rw[aD,List.length_range'];exact su h5) hr (h3 Y r a b π none hπ)) λ q hq=>?_
 refine wr hq λ enc w4 w5' z1_=>?_;clear hq;subst z1_
 exact et (rp rfl)
end
noncomputable abbrev yA:SF:=ao (cu (dZ 137 (fK 4 c_ fJ GRg) (cV 2))) (ao (jD (cu (ir 137 (fK 4 c_ fJ DNg) (cV 2) (aq (cV 3) (aI)))) (oU 137 (zV 1 8 (sh 137 40)) (cV 2) (aq (cV 3) (aI))) (ao (cE (cC (.bool false))) (aC))) (aC))
section
variable{m:Nat}{N:List (List Int)}{D:Dn}
theorem t7 (H:NOk m N)(hn:D.hn=true)(hd:5<=D.d){nv tv:Option VV}{Y:Nat->Prop}{r:Nat}{π:List Nat}(hπ:π.length=4+3*(cz m).length):∀(rest dn w:List Int) (S:fb) (w3:Option VV),Inv (cz m) (dw N) dn w S->S.bd<=5+2*dn.length->dn.length+rest.length<=100->(dn++rest).Nodup->(∀k∈rest,k∈cz m)->
  (Lin (dw N) rest dn->FX OS D Y jM 3 0 yA [nv,tv,some (.obj r π (bY 137 40 m (cz m) (fE m N) S)),w3] (rest.map AV.int) (.ex λ q=>∃S' w' w3',Inv (cz m) (dw N) (dn++rest) w' S'/\q=[nv,tv,some (.obj r π (bY 137 40 m (cz m) (fE m N) S')),w3']))/\
  (¬Lin (dw N) rest dn->FX OS D Y jM 3 0 yA [nv,tv,some (.obj r π (bY 137 40 m (cz m) (fE m N) S)),w3] (rest.map AV.int) (.rt 0 (.bool false)))
 |[],dn,w,S,w3,I,hb,hl,nd,hm=>⟨λ _=>.nilE _ _ ⟨S,w,w3,by rw[List.append_nil];exact I,rfl⟩,λ h=>absurd trivial h⟩
 |k::rest,dn,w,S,w3,I,hb,hl,nd,hm=>by
  have h5:=H.m5
  rw[bL]at hl
  have hk:=hm k aT
  have hkm:=(H.gr.mem k).mp hk
  have hkd:k∉dn:=λ q=>(List.nodup_append.mp nd).2.2 k q k (by simp) rfl
  have I1:=I.gr
  have hb1:(gR (cz m) S).bd=S.bd+1:=rfl
  refine bW (qD H I (ω433 hb hl)) λ st2 g1 g2 g3=>?_
  have s1:=rq (D:=D) (X:=Y) (W:=jM) (env:=[nv,tv,some (.obj r π (bY 137 40 m (cz m) (fE m N) S)),some (.val 0 (.int k))]) (s:=2) (g:=GRg) (kt:=c_) (d0:=4) rfl hn hd (show bV 137 (.ref 0) (bY 137 40 m (cz m) (fE m N) S)=true from rfl) g1 (by rw[hπ];exact g3)
  change SX OS D Y jM _ _ (.nx [nv,tv,some (.obj r π (bY 137 40 m (cz m) (fE m N) (gR (cz m) S))),some (.val 0 (.int k))])at s1
  by_cases hc:∀j∈dw N k,j∈dn
  ·have hyw:k∈w++S.rdy:=by
    by_cases q:k∈w
    ·exact List.mem_append_left _ q
    ·exact List.mem_append_right _ ((I.rdy k).mpr ⟨hk,hkd,q,fk.mpr hc⟩)
   refine eE (List.getElem?_of_mem hyw) λ c hy=>?_
   refine fT (l5 I1.wnd hy) λ f1 f2 f3=>?_
   refine eA (I1.dn1 H.gr rfl hyw f1 f2 f3) λ I2 hbd=>?_
   refine aQ (qT H I1 (ω435 hb1 hb hl) rfl hyw) λ st3 d1 d2=>?_
   have s2:=j' (D:=D) (X:=Y) (W:=jM) (env:=[nv,tv,some (.obj r π (bY 137 40 m (cz m) (fE m N) (gR (cz m) S))),some (.val 0 (.int k))]) (fl:=[.int k]) (kt:=c_) (g:=DNg) (d0:=4) (s:=2) rfl hn hd (show bV 137 (.ref 0) (bY 137 40 m (cz m) (fE m N) (gR (cz m) S))=true from rfl) (kU (bJ (i:=3) rfl) i9) (λ v hv=>by rw[List.mem_singleton.mp hv];rfl) d1 (by rw[hπ];exact d2)
   change SX OS D Y jM _ _ (.nx [nv,tv,some (.obj r π (bY 137 40 m (cz m) (fE m N) (dn1 (cz m) (fE m N) (gR (cz m) S) k))),some (.val 0 (.int k))])at s2
   have s3:=ro (s:=2) (i:=3) (TS:=137) (NI:=40) (hb:=ao (cE (cC (.bool false))) (aC)) (dd:=D.d - 1) hn (sx hd) rfl rfl H.gr.nd I1.l1 NOk.l2 (eH hk) (I1.np_at hyw) (wY hkm h5) (s2.ex (P:=λ q=>q=[nv,tv,some (.obj r π (bY 137 40 m (cz m) (fE m N) (dn1 (cz m) (fE m N) (gR (cz m) S) k))),some (.val 0 (.int k))]) rfl)
   have turn:SX OS D Y jM [nv,tv,some (.obj r π (bY 137 40 m (cz m) (fE m N) S)),some (.val 0 (.int k))] yA (.ex λ q=>q=[nv,tv,some (.obj r π (bY 137 40 m (cz m) (fE m N) (dn1 (cz m) (fE m N) (gR (cz m) S) k))),some (.val 0 (.int k))]):=
    b8 s1 (d5 s3 λ q hq=>by rw[hq];exact eT.ex rfl)
   have hl1:(dn++[k]).length=dn.length+1:=by rw[aU];rfl
   refine eA (t7 H hn hd (nv:=nv) (tv:=tv) (Y:=Y) (r:=r) hπ rest (dn++[k]) _ _ (some (.val 0 (.int k))) I2 (ω429 hbd hl1 hb1 hb) (ω430 hl1 hl) (by rw[aR];exact nd) (λ x hx=>hm x (ar _ hx))) λ A B=>?_
   refine⟨λ L=>?_,λ L=>?_⟩
   ·refine .nextE _ _ _ _ _ turn (λ q hq=>by rw[hq];simp) λ q hq=>?_
    rw[hq,show dn++k::rest=(dn++[k])++rest by rw[aR];rfl]
    exact A L.2
   ·refine .nextE _ _ _ _ _ turn (λ q hq=>by rw[hq];simp) λ q hq=>?_
    rw[hq]
    exact B λ q=>L ⟨hc,q⟩
  ·refine⟨λ L=>absurd L.1 hc,λ _=>?_⟩
   have hw:k∉w++S.rdy:=λ q=>hc (fk.mp (I1.ok k q).2.2)
   have np:(gR (cz m) S).np[bI (cz m) k]? =some (qY dn (dw N k):Int):=(I1.np.2 k hk).trans (congrArg some (by show(if k∈dn then(-2:Int)else if k∈w++S.rdy then -1 else _)=_;rw[if_neg hkd,if_neg hw]))
   refine .ret _ _ _ _ _ (b8 s1 (et (rm (TS:=137) (NI:=40) (s:=2) (i:=3) (dd:=D.d - 1) hn (sx hd) rfl rfl H.gr.nd I1.l1 NOk.l2 (eH hk) np (Int.natCast_nonneg _) (wY hkm h5))))
theorem yy (H:NOk m N){d:Nat}(hd:6<=d){kt:Nat->Option (List AV)}{t:List Int}(O:Ord m t){b:Bool}(hb:Lin (dw N) t []↔b=true)(Y:Nat->Prop):
  SX OS ⟨[],d,true,kt⟩ Y jM (jt [.mk 2 (vN N),.mk 1 (t.map AV.int:List AV)] 4) eF (.rt 0 (.bool b)):=by
 have h5:=H.m5
 show SX OS ⟨[],d,true,kt⟩ Y jM [some (.val 2 (vN N)),some (.val 1 (t.map AV.int:List AV)),none,none] _ _
 unfold eF
 refine d5 (nM (d:=d - 1) (ts:=[.mk 2 (vN N)]) (by simp) (λ k h=>by cases h) (by show d=d - 1+1;exact sv hd) (bc (bJ rfl) ci) (by simp) rfl (lL H (wZ hd))) λ q hq=>?_
 refine vf hq λ r π z1_=>?_;clear hq;subst z1_
 show SX OS ⟨[],d,true,kt⟩ Y jM [some (.val 2 (vN N)),some (.val 1 (t.map AV.int:List AV)),some (.obj r π (bY 137 40 m (cz m) (fE m N) (S0 m N))),none] _ _
 refine sO (i:=2) rfl NOk.l1 NOk.l2 λ hπ=>?_
 refine eA (t7 (D:=⟨[],d,true,kt⟩) H rfl (Nat.le_of_succ_le hd) (nv:=some (.val 2 (vN N))) (tv:=some (.val 1 (t.map AV.int:List AV))) (Y:=Y) (r:=r) hπ t [] [] (S0 m N) none H.inv (Nat.le_refl _) (by rw[O.len];show 0+m<=100;exact ω432 h5) O.nd (λ k hk=>(H.gr.mem k).mpr (O.lt k hk))) λ A B=>?_
 have hz:(t.map AV.int).length<64:=by rw[aD,O.len];exact su h5
 cases b with
 |true=>
  refine d5 (iE (n:=0) (i:=3) (xs:=t.map AV.int) rfl (by simp) (λ k h=>by cases h) hz (nh (bJ rfl)) (A (hb.mpr rfl))) λ q hq=>?_
  refine kY hq λ S' w' w3' I z1_=>?_;clear hq;subst z1_
  rw[List.nil_append]at I
  refine eA (I.end' H.gr O.len) λ e1 e2=>?_
  have act:nH S'=false:=by
   unfold nH
   rw[I.fin,I.psd,e1,e2,decide_eq_false (by show¬((t.length:Int)<t.length+((0:Nat):Int));exact ω434)]
   rfl
  exact et (mq (EX.cast (yX (wj (ut (TS:=137) (s:=2) (dd:=d - 1) rfl (by show d=d - 1+1;exact sv hd) rfl H.gr.nd I.l1 NOk.l2 (by rw[e2];exact Nat.zero_le _)))) (by rw[act];rfl)))
 |false=>exact et (iE (n:=0) (i:=3) (xs:=t.map AV.int) rfl (by simp) (λ k h=>by cases h) hz (nh (bJ rfl)) (B λ q=>by cases hb.mp q))
end
theorem nQ {α:Type}{l:List α}{p:Nat}(h:p<=l.length):d7 l none (some (p:Int))=l.take p:=by
 rw[dD]
 show(l.drop 0).take (clipAt l.length (p:Int) - 0)=_
 rw[clipAt_nat,List.drop_zero,Nat.sub_zero,Nat.min_eq_left h]
theorem s7 {α:Type}{l:List α}{p:Nat}(h:p<=l.length):d7 l (some (p:Int)) none=l.drop p:=by
 rw[dD]
 show(l.drop (clipAt l.length (p:Int))).take (l.length - clipAt l.length (p:Int))=_
 rw[clipAt_nat,Nat.min_eq_left h,List.take_of_length_le (by rw[List.length_drop];exact Nat.le_refl _)]
theorem sQ:∀{p:Nat} {o:List Int} {a b:Int},o[p]? =some a->o[p+1]? =some b->im p o=o.take p++[b,a]++o.drop (p+2)
 |0,[],_,_,h,_=>by cases h
 |0,[x],_,_,_,h=>by cases h
 |0,x::y::o,a,b,h1,h2=>by cases h1;cases h2;rfl
 |p+1,[],_,_,h,_=>by cases h
 |p+1,x::o,a,b,h1,h2=>congrArg (x::·) (sQ (p:=p) (o:=o) h1 h2)
noncomputable def fj (m:Nat):List AV:=(cz m).map λ k=>.str [tZ k]
noncomputable def wv (row:List AV):List Nat:=row.map λ v=>v.i 0 tZ
theorem oV:∀o:List Int,wv (o.map .int)=jf o
 |[]=>rfl
 |a::o=>congrArg (tZ a::·) (oV o)
theorem x6 (l:List AV):(l.filter λ _=>true).map (λ v=>AV.str [v.i 0 tZ])=(wv l).map λ c=>AV.str [c]:=by
 unfold wv
 rw[List.map_map,List.filter_eq_self.mpr (λ _ _=>rfl)]
 rfl
theorem ky_at {m:Nat}(hm:m=4∨m=5){k:Int}(h:0<=k/\k<m):(cz m)[k.toNat]? =some k:=by
 have h0:k=0∨k=1∨k=2∨k=3∨k=4:=by exact ω451 h hm
 rcases hm with rfl|rfl
 ·rcases h0 with rfl|rfl|rfl|rfl|rfl
  ·rfl
  ·rfl
  ·rfl
  ·rfl
  ·exact absurd h (by decide)
 ·rcases h0 with rfl|rfl|rfl|rfl|rfl<;>rfl
theorem lP {k:Int}{n:Nat}(h:0<=k/\k<n):bE k n=some k.toNat:=by
 have:=dc (k:=k.toNat) (n:=n) (w_ h)
 rw[show((k.toNat:Nat):Int)=k by exact w9 h]at this
 exact this
theorem Ord.perm {m:Nat}{o o':List Int}(O:Ord m o)(h:o'.Perm o):Ord m o':=⟨h.nodup_iff.mpr O.nd,h.length_eq.trans O.len,λ k hk=>O.lt k (h.mem_iff.mp hk)⟩
noncomputable abbrev De (L d:Nat)(kt:Nat->Option (List AV)):Dn:=⟨[none,some (L+0),none,none,none,none,none],d,true,kt⟩
noncomputable abbrev xy:EF:=jR (jR (f6 (cV 2) (cC .none) (cV 4)) (dj (aq (bN (cV 2) (eS dN (cV 4) (cC (.int 1)))) (aq (bN (cV 2) (cV 4)) (aI))))) (f6 (cV 2) (eS dN (cV 4) (cC (.int 2))) (cC .none))
noncomputable abbrev xt:EF:=dq 64 3 0 [.loc,.loc,.old 1] (dj (aq (cV 2) (aq (cV 5) (aI)))) (gV 1) (c8) [] (cc .str jF (cC (.str [])) (aq (dq 64 3 0 [.loc,.loc,.old 2] (cV 1) (gV 1) (c8) [] (bN (cV 2) (cV 1))) (aI)))
noncomputable abbrev uc:SF:=ao (bv (gV 5) xy) (ao (dL (tE (aP (cm 2 4 eF) (aq (cV 0) (aq (cV 5) (aI))))) (ao (bv (gV 6) xt) (ao (dL (cK (λ a b=>a != b) (aP (gz 2 lv) (aq (bN (cV 6) (cC (.int 0))) (aq (bN (cV 6) (cC (.int 1))) (aq (cC (.int 9)) (aI))))) (cC (.int 4))) (ao (cE (dj (aI))) (aC)) (aC)) (ao (bv (gV 2) (cV 5)) (aC)))) (ao (dL (nA true (bN (cV 2) (cV 4)) (bN (cV 0) (bN (cV 2) (eS dN (cV 4) (cC (.int 1)))))) (ao (cE (dj (aI))) (aC)) (aC)) (aC))) (aC))
theorem rs5 {n:Nat}(h:n<5):Builtin.Range.small 0 (n:Int) 1=true/\(Builtin.Range.rangeSize 0 (n:Int) 1).toNat=n:=by
 have:n=0∨n=1∨n=2∨n=3∨n=4:=by exact ω469 h
 rcases this with rfl|rfl|rfl|rfl|rfl<;>exact⟨by decide,by decide⟩
section
variable{m:Nat}{N:List (List Int)}{d L:Nat}{kt:Nat->Option (List AV)}{Y:Nat->Prop}
theorem vm {D:Dn}{X W:Nat->Prop}{w0 w1 w3 w5 w6:Option VV}{o:List Int}{p:Nat}{a b:Int}(ha:o[p]? =some a)(hb:o[p+1]? =some b)(hz:o.length<=100):EX OS D X W [w0,w1,some (.val 1 (o.map AV.int:List AV)),w3,some (.val 0 (.int p)),w5,w6] xy 1 ((im p o).map AV.int:List AV):=by
 have hl:=(aa.mp hb).1
 have e1:((o.map AV.int).take p++[AV.int b,.int a])++(o.map AV.int).drop (p+2)=(im p o).map AV.int:=by
  rw[sQ ha hb,List.map_append,List.map_append,List.map_take,List.map_drop]
  rfl
 rw[← e1]
 have lm:(o.map AV.int).length=o.length:=aD ..
 have hzm:(o.map AV.int).length<=1000:=by rw[lm];exact xb hz
 have k1:p<=(o.map AV.int).length:=by rw[lm];exact ω470 hl
 have k2:p+2<=(o.map AV.int).length:=by rw[lm];exact ω471 hl
 have k3:p+1<(o.map AV.int).length:=by rw[lm];exact ω472 k2 lm
 have k4:p<(o.map AV.int).length:=by rw[lm];exact ω452 k3 lm
 have ga:(o.map AV.int)[p]? =some (AV.int a):=by rw[aB,ha];rfl
 have gb:(o.map AV.int)[p+1]? =some (AV.int b):=by rw[aB,hb];rfl
 have c1:EX OS D X W [w0,w1,some (.val 1 (o.map AV.int:List AV)),w3,some (.val 0 (.int p)),w5,w6] (f6 (cV 2) (cC .none) (cV 4)) 1 ((o.map AV.int).take p:List AV):=EX.cast (pG (n:=0) (xs:=(o.map AV.int:List AV)) (lo:=none) (hi:=some (p:Int)) (EX.list (bJ rfl)) (cS rfl) (bJ rfl) rfl rfl hzm) (nQ k1)
 have c2:EX OS D X W [w0,w1,some (.val 1 (o.map AV.int:List AV)),w3,some (.val 0 (.int p)),w5,w6] (f6 (cV 2) (eS dN (cV 4) (cC (.int 2))) (cC .none)) 1 ((o.map AV.int).drop (p+2):List AV):=EX.cast (pG (n:=0) (xs:=(o.map AV.int:List AV)) (lo:=some (((p+2:Nat)):Int)) (hi:=none) (y:=.int ((p:Int)+2)) (EX.list (bJ rfl)) (kP (λ _ _=>rfl) (bJ rfl) (cS rfl)) (cS rfl) rfl rfl hzm) (s7 k2)
 have s1:EX OS D X W [w0,w1,some (.val 1 (o.map AV.int:List AV)),w3,some (.val 0 (.int p)),w5,w6] (bN (cV 2) (eS dN (cV 4) (cC (.int 1)))) 0 (.int b):=dU (n:=0) (xs:=(o.map AV.int:List AV)) (i:=(p:Int)+1) (k:=p+1) (EX.list (bJ rfl)) (kP (λ _ _=>rfl) (bJ rfl) (cS rfl)) hzm (dc (k:=p+1) k3) gb
 have s2:EX OS D X W [w0,w1,some (.val 1 (o.map AV.int:List AV)),w3,some (.val 0 (.int p)),w5,w6] (bN (cV 2) (cV 4)) 0 (.int a):=dU (n:=0) (xs:=(o.map AV.int:List AV)) (i:=(p:Int)) (k:=p) (EX.list (bJ rfl)) (bJ rfl) hzm (dc (k:=p) k4) ga
 have l1:((o.map AV.int).take p).length<=100:=Nat.le_trans (List.length_take_le _ _) (ω453 k4 lm hz)
 have l2:((o.map AV.int).drop (p+2)).length<=100:=by rw[List.length_drop,aD];exact ω454 hz
 have z1:((o.map AV.int).take p).length+2<=1000:=by exact ω455 l1
 have z2:((o.map AV.int).take p++[AV.int b,.int a]).length+((o.map AV.int).drop (p+2)).length<=1000:=by rw[aU];show _+2+_<=1000;exact ω456 l1 l2
 refine kO (n:=0) (xs:=((o.map AV.int).take p++[AV.int b,.int a]:List AV)) (ys:=((o.map AV.int).drop (p+2):List AV)) (EX.list (kO (n:=0) (xs:=((o.map AV.int).take p:List AV)) (ys:=[AV.int b,.int a]) (EX.list c1) (EX.list (g7 (n:=0) (xs:=[AV.int b,.int a]) (bc s1 (bc s2 ci)) (by show 2<=1000;decide))) z1)) (EX.list c2) z2
theorem tw (hm:m=4∨m=5){L2 d0:Nat}{X W:Nat->Prop}{o:List Int}(O:Ord m o):EX OS ⟨[none,none,some (L+0)],d0,true,kt⟩ X W [none,some (.val 1 (o.map AV.int:List AV)),some (.val 1 (fj m))] (cc .str jF (cC (.str [])) (aq (dq 64 3 0 [.loc,.loc,.old 2] (cV 1) (gV 1) (c8) [] (bN (cV 2) (cV 1))) (aI))) 0 (.str (wv (o.map AV.int))):=by
 have hz:o.length<=5:=by rw[O.len];exact sr hm
 have hc:=g8 (O:=OS) (D:=⟨[none,none,some (L+0)],d0,true,kt⟩) (X:=X) (W:=W) (env:=[none,some (.val 1 (o.map AV.int:List AV)),some (.val 1 (fj m))]) (fuel:=64) (nv:=3) (nc:=0) (ti:=1) (n:=0) (m:=0) (vk:=[.loc,.loc,.old 2]) (it:=cV 1) (ex:=bN (cV 2) (cV 1)) (ifs:=c8) (xs:=o.map AV.int) (p:=λ _=>true) (g:=λ v=>AV.str [v.i 0 tZ]) rfl rfl (λ b=>⟨_,rfl⟩) (nh (bJ rfl)) (by show(o.map AV.int).length<64;rw[aD];exact sz hz) (cg _ (jA hz)) (λ L3 cs3 h3 x hx=>by
  have h3:cs3=[none,none,some (L+0)]:=(aj h3).symm
  subst h3
  refine aQ (List.mem_map.mp hx) λ k hk z1_=>?_;subst z1_
  have hk:=O.lt k hk
  refine⟨ij,λ _=>?_⟩
  have gs:(fj m)[k.toNat]? =some (AV.str [tZ k]):=by
   unfold fj
   rw[aB,ky_at hm hk]
   rfl
  refine dU (n:=0) (xs:=fj m) (i:=k) (k:=k.toNat) (V:=AV.str [tZ k]) (EX.list (bJ (i:=2) rfl)) (bJ (i:=1) rfl) (by show(fj m).length<=1000;unfold fj;rw[aD,(kD hm).2];exact sq hm) (by show bE k (fj m).length=_;unfold fj;rw[aD,(kD hm).2];exact lP hk) gs)
 exact wi (EX.list (EX.cast hc (x6 _))) (by unfold wv;rw[aD];exact cg _ (jA hz))
theorem vi (hm:m=4∨m=5){o o':List Int}(O:Ord m o)(O':Ord m o'){w0 w3 w4 w6:Option VV}{X W:Nat->Prop}:EX OS (De L d kt) X W [w0,some (.val 1 (fj m)),some (.val 1 (o.map AV.int:List AV)),w3,w4,some (.val 1 (o'.map AV.int:List AV)),w6] xt 1 [AV.str (jf o),.str (jf o')]:=by
 have hc:=g8 (O:=OS) (D:=De L d kt) (X:=X) (W:=W) (env:=[w0,some (.val 1 (fj m)),some (.val 1 (o.map AV.int:List AV)),w3,w4,some (.val 1 (o'.map AV.int:List AV)),w6]) (fuel:=64) (nv:=3) (nc:=0) (ti:=1) (n:=1) (m:=0) (vk:=[.loc,.loc,.old 1]) (it:=dj (aq (cV 2) (aq (cV 5) (aI)))) (ex:=cc .str jF (cC (.str [])) (aq (dq 64 3 0 [.loc,.loc,.old 2] (cV 1) (gV 1) (c8) [] (bN (cV 2) (cV 1))) (aI))) (ifs:=c8) (xs:=[(o.map AV.int:List AV),(o'.map AV.int:List AV)]) (p:=λ _=>true) (g:=λ row:List AV=>AV.str (wv row)) rfl rfl (λ b=>⟨_,rfl⟩) (nh (g7 (n:=1) (xs:=[(o.map AV.int:List AV),(o'.map AV.int:List AV)]) (bc (n:=1) (V:=(o.map AV.int:List AV)) (bJ rfl) (bc (n:=1) (V:=(o'.map AV.int:List AV)) (bJ rfl) ci)) (by show 2<=1000;decide))) (by show 2<64;decide) (by show 2<=1000;decide) (λ L3 cs3 h3 x hx=>by
  have h3:cs3=[none,none,some (L+0)]:=(aj h3).symm
  subst h3
  refine⟨ij,λ _=>?_⟩
  have hx:@Membership.mem (List AV) (List (List AV)) _ [(o.map AV.int:List AV),(o'.map AV.int:List AV)] x:=hx
  rcases List.mem_cons.mp hx with rfl|hx
  ·exact tw (L2:=0) hm O
  ·have:x=o'.map AV.int:=List.mem_singleton.mp hx
   subst this
   exact tw (L2:=0) hm O')
 refine EX.cast hc ?_
 show[AV.str (wv (o.map AV.int)),.str (wv (o'.map AV.int))]=_
 rw[oV,oV]
 rfl
theorem yH (H:NOk m N)(hd:7<=d){o:List Int}(O:Ord m o)(Lo:LO (dw N) o []){p:Nat}(hp:p+1<m){w3 w5 w6:Option VV}:
  SX OS (De L d kt) Y (WC L 1) [some (.val 2 (vN N)),some (.val 1 (fj m)),some (.val 1 (o.map AV.int:List AV)),w3,some (.val 0 (.int p)),w5,w6] uc (.ex λ q=>∃w5' w6',q=[some (.val 2 (vN N)),some (.val 1 (fj m)),some (.val 1 ((tg (dw N) p o).map AV.int:List AV)),w3,some (.val 0 (.int p)),w5',w6']):=by
 have h5:=H.m5
 refine bz (sP Lo (by rw[O.len];exact hp)) λ a b ha hb c1 c2=>?_
 have O':=O.perm (nN (p:=p) (o:=o))
 have hz:o.length<=5:=by rw[O.len];exact ω460 h5
 refine b8 (fX (i:=5) (n:=1) (by simp) (λ k h=>by cases h) (vm ha hb (ω286 hz))) ?_
 show SX OS (De L d kt) Y (WC L 1) [some (.val 2 (vN N)),some (.val 1 (fj m)),some (.val 1 (o.map AV.int:List AV)),w3,some (.val 0 (.int p)),some (.val 1 ((im p o).map AV.int:List AV)),w6] _ _
 have call:∀{c:Bool},(Lin (dw N) (im p o) []↔c=true)->ET OS (De L d kt) Y (WC L 1) [some (.val 2 (vN N)),some (.val 1 (fj m)),some (.val 1 (o.map AV.int:List AV)),w3,some (.val 0 (.int p)),some (.val 1 ((im p o).map AV.int:List AV)),w6] (tE (aP (cm 2 4 eF) (aq (cV 0) (aq (cV 5) (aI))))) c:=λ{c} hc=>
  wj (oc (d:=d - 1) (m:=0) (ts:=[.mk 2 (vN N),.mk 1 ((im p o).map AV.int:List AV)]) (by show d=d - 1+1;exact ω461 hd) (bc (bJ (i:=0) rfl) (bc (bJ (i:=5) rfl) ci)) (by show 2<=4;decide) rfl λ Y'=>yy H (ω462 hd) O' hc Y')
 by_cases q:a∈dw N b
 ·refine eA (c1 q) λ e1 e2=>?_
  have lm:(o.map AV.int).length=o.length:=aD ..
  have k3:p+1<(o.map AV.int).length:=by rw[lm,O.len];exact hp
  have k4:p<(o.map AV.int).length:=Nat.lt_of_succ_lt k3
  have ga:(o.map AV.int)[p]? =some (AV.int a):=by rw[aB,ha];rfl
  have gb:(o.map AV.int)[p+1]? =some (AV.int b):=by rw[aB,hb];rfl
  have ob:b∈o:=ac hb
  have hbm:=O.lt b ob
  have hN:=H.at' hbm
  have hl:=H.five (ac hN)
  have s1:EX OS (De L d kt) Y (WC L 1) [some (.val 2 (vN N)),some (.val 1 (fj m)),some (.val 1 (o.map AV.int:List AV)),w3,some (.val 0 (.int p)),some (.val 1 ((im p o).map AV.int:List AV)),w6] (bN (cV 2) (eS dN (cV 4) (cC (.int 1)))) 0 (.int b):=dU (n:=0) (xs:=(o.map AV.int:List AV)) (i:=(p:Int)+1) (k:=p+1) (EX.list (bJ rfl)) (kP (λ _ _=>rfl) (bJ rfl) (cS rfl)) (cg _ (jA hz)) (dc (k:=p+1) k3) gb
  have s2:EX OS (De L d kt) Y (WC L 1) [some (.val 2 (vN N)),some (.val 1 (fj m)),some (.val 1 (o.map AV.int:List AV)),w3,some (.val 0 (.int p)),some (.val 1 ((im p o).map AV.int:List AV)),w6] (bN (cV 2) (cV 4)) 0 (.int a):=dU (n:=0) (xs:=(o.map AV.int:List AV)) (i:=(p:Int)) (k:=p) (EX.list (bJ rfl)) (bJ rfl) (cg _ (jA hz)) (dc (k:=p) k4) ga
  have s3:EX OS (De L d kt) Y (WC L 1) [some (.val 2 (vN N)),some (.val 1 (fj m)),some (.val 1 (o.map AV.int:List AV)),w3,some (.val 0 (.int p)),some (.val 1 ((im p o).map AV.int:List AV)),w6] (bN (cV 0) (bN (cV 2) (eS dN (cV 4) (cC (.int 1))))) 1 ((dw N b).map AV.int:List AV):=dU (n:=1) (xs:=vN N) (i:=b) (k:=b.toNat) (EX.list (bJ (i:=0) rfl)) s1 (by show(vN N).length<=1000;rw[fW,H.len];exact iw h5) (by show bE b (vN N).length=_;rw[fW,H.len];exact lP hbm) (sH hN)
  have t:=xL (neg:=true) (i:=a) (ns:=dw N b) s2 (EX.list s3) (jA hl)
  have t:ET OS (De L d kt) Y (WC L 1) _ _ false:=t.cast (by rw[List.contains_iff_mem.mpr q];rfl)
  refine b8 (lK (c:=false) (call ⟨λ z=>absurd z e2,λ z=>by cases z⟩) (b8 (lK t eT) eT)) (eT.ex ⟨some (.val 1 ((im p o).map AV.int:List AV)),w6,?_⟩)
  rw[e1]
 ·refine eA (c2 q) λ e1 e2=>?_
  refine b8 (lK (c:=true) (call ⟨λ _=>rfl,λ _=>e2⟩) (b8 (fX (i:=6) (n:=1) (V:=([AV.str (jf o),.str (jf (im p o))]:List AV)) (by simp) (λ k h=>by cases h) (vi H.hm O O')) ?_)) (eT.ex (env1:=[some (.val 2 (vN N)),some (.val 1 (fj m)),some (.val 1 ((im p o).map AV.int:List AV)),w3,some (.val 0 (.int p)),some (.val 1 ((im p o).map AV.int:List AV)),some (.val 1 ([AV.str (jf o),.str (jf (im p o))]:List AV))]) ⟨some (.val 1 ((im p o).map AV.int:List AV)),some (.val 1 ([AV.str (jf o),.str (jf (im p o))]:List AV)),?_⟩)
  ·show SX OS (De L d kt) Y (WC L 1) [some (.val 2 (vN N)),some (.val 1 (fj m)),some (.val 1 (o.map AV.int:List AV)),w3,some (.val 0 (.int p)),some (.val 1 ((im p o).map AV.int:List AV)),some (.val 1 ([AV.str (jf o),.str (jf (im p o))]:List AV))] _ _
   have hlv:=qK (O:=OS) (D:=De L d kt) (X:=Y) (W:=WC L 1) (env:=[some (.val 2 (vN N)),some (.val 1 (fj m)),some (.val 1 (o.map AV.int:List AV)),w3,some (.val 0 (.int p)),some (.val 1 ((im p o).map AV.int:List AV)),some (.val 1 ([AV.str (jf o),.str (jf (im p o))]:List AV))]) (d0:=2) (fl:=[.str (jf o),.str (jf (im p o)),.int 9]) rfl (by show 3<=d;exact ω463 hd) (bc (n:=0) (V:=AV.str (jf o)) (dU (n:=0) (xs:=([AV.str (jf o),.str (jf (im p o))]:List AV)) (i:=0) (k:=0) (EX.list (bJ (i:=6) rfl)) (cS rfl) (by show 2<=1000;decide) rfl rfl) (bc (n:=0) (V:=AV.str (jf (im p o))) (dU (n:=0) (xs:=([AV.str (jf o),.str (jf (im p o))]:List AV)) (i:=1) (k:=1) (EX.list (bJ (i:=6) rfl)) (cS rfl) (by show 2<=1000;decide) rfl rfl) (bc (cS rfl) ci))) (lv_at H.hm O hp) rfl
   refine b8 (lK (c:=false) (et_k (f:=λ a b=>a != b) (m:=4) (k:=4) hlv (cS rfl)) eT) ?_
   exact b8 (fX (i:=2) (n:=1) (V:=((im p o).map AV.int:List AV)) (by simp) (λ k h=>by cases h) (bJ (i:=5) rfl)) eT
  ·rw[e1]
theorem xH (H:NOk m N)(hd:7<=d){w3:Option VV}:∀(n p:Nat) (o:List Int) (w4 w5 w6:Option VV),Ord m o->LO (dw N) o []->p+n<m->
  FX OS (De L d kt) Y (WC L 1) 4 0 uc [some (.val 2 (vN N)),some (.val 1 (fj m)),some (.val 1 (o.map AV.int:List AV)),w3,w4,w5,w6] (fF p n) (.ex λ q=>∃w4' w5' w6',q=[some (.val 2 (vN N)),some (.val 1 (fj m)),some (.val 1 ((gh (dw N) (List.range' p n) o).map AV.int:List AV)),w3,w4',w5',w6'])
 |0,p,o,w4,w5,w6,O,Lo,h=>.nilE _ _ ⟨w4,w5,w6,rfl⟩
 |n+1,p,o,w4,w5,w6,O,Lo,h=>by
  rw[kH,List.range'_succ]
  refine .nextE _ _ _ _ _ (yH H hd O Lo (p:=p) (ω464 h)) (λ q hq=>by refine vf hq λ _ _ z1_=>?_;clear hq;subst z1_;simp) λ q hq=>?_
  refine vf hq λ w5' w6' z1_=>?_;clear hq;subst z1_
  exact xH H hd n (p+1) (tg (dw N) p o) _ w5' w6' (O.perm mo) (sJ Lo) (ω465 h)
theorem yq (H:NOk m N)(hd:7<=d){o:List Int}(O:Ord m o)(Lo:LO (dw N) o []){n:Nat}(hn:n<m){w4 w5 w6:Option VV}:
  SX OS (De L d kt) Y (WC L 1) [some (.val 2 (vN N)),some (.val 1 (fj m)),some (.val 1 (o.map AV.int:List AV)),some (.val 0 (.int n)),w4,w5,w6] (ao (dM 64 (gV 4) (aP bH (aq (cV 3) (aI))) uc (aC)) (aC)) (.ex λ q=>∃w3' w4' w5' w6',q=[some (.val 2 (vN N)),some (.val 1 (fj m)),some (.val 1 ((gh (dw N) (List.range' 0 n) o).map AV.int:List AV)),w3',w4',w5',w6']):=by
 have h5:=H.m5
 have hr:EI OS (De L d kt) Y (WC L 1) (bl Y (WC L 1) [some (.val 2 (vN N)),some (.val 1 (fj m)),some (.val 1 (o.map AV.int:List AV)),some (.val 0 (.int n)),w4,w5,w6]) [some (.val 2 (vN N)),some (.val 1 (fj m)),some (.val 1 (o.map AV.int:List AV)),some (.val 0 (.int n)),w4,w5,w6] (aP bH (aq (cV 3) (aI))) 0 (fF 0 n):=
  (fC (ts:=[(n:Int)]) (a:=0) (b:=n) (c:=1) (n:=n) (bc (bJ (i:=3) rfl) ci) rfl (rs5 (wX hn h5)).1 (rs5 (wX hn h5)).2).cast (iX _)
 refine d5 (iE (n:=0) (i:=4) (xs:=fF 0 n) rfl (by simp) (λ k h=>by cases h) (by show(fF 0 n).length<64;unfold fF;rw[aD,List.length_range'];exact ω467 hn h5) hr (xH H hd n 0 o w4 w5 w6 O Lo (ω468 hn))) λ q hq=>?_
 refine wr hq λ w4' w5' w6' z1_=>?_;clear hq;subst z1_
 exact eT.ex ⟨_,w4',w5',w6',rfl⟩
theorem xK (H:NOk m N)(hd:7<=d){o:List Int}(O:Ord m o)(Lo:LO (dw N) o [])(cs':List (Option Nat))(hcs:fo [.loc,.new 0,.loc,.loc,.loc,.loc,.loc] [] L=some cs'):
  SX OS ⟨cs',d,true,kt⟩ Y (WC L 1) (jt [.mk 2 (vN N),.mk 1 (fj m),.mk 1 (o.map AV.int:List AV)] 7) cA (.rt 1 ((gh (dw N) (l4 m) o).map AV.int:List AV)):=by
 have hcs:cs'=[none,some (L+0),none,none,none,none,none]:=(aj hcs).symm
 subst hcs
 show SX OS (De L d kt) Y (WC L 1) [some (.val 2 (vN N)),some (.val 1 (fj m)),some (.val 1 (o.map AV.int:List AV)),none,none,none,none] _ _
 unfold cA
 have hl:∀{c:Int},(m:Int) - 1=c->EX OS (De L d kt) Y (WC L 1) [some (.val 2 (vN N)),some (.val 1 (fj m)),some (.val 1 (o.map AV.int:List AV)),none,none,none,none] (eS eW (aP dJ (aq (cV 2) (aI))) (cC (.int 1))) 0 (.int c):=λ{c} hc=>by
  rw[← hc]
  refine kP (λ _ _=>rfl) (EX.cast (m_ (n:=0) (xs:=(o.map AV.int:List AV)) (EX.list (bJ (i:=2) rfl)) (cg _ (by rw[O.len];have:=H.m5;exact iw this))) ?_) (cS rfl)
  show AV.int ((o.map AV.int).length:Int)=_
  rw[aD,O.len]
 have fin:∀{o':List Int} {w3 w4 w5 w6:Option VV},SX OS (De L d kt) Y (WC L 1) [some (.val 2 (vN N)),some (.val 1 (fj m)),some (.val 1 (o'.map AV.int:List AV)),w3,w4,w5,w6] (ao (cE (cV 2)) (aC)) (.rt 1 (o'.map AV.int:List AV)):=et (mq (bJ (i:=2) rfl))
 have step:∀(n:Nat) (xs:List AV) (o':List Int) (Q:pV) (w3 w4 w5 w6:Option VV),Ord m o'->LO (dw N) o' []->n<m->(∀w3 w4 w5 w6,FX OS (De L d kt) Y (WC L 1) 3 0 (ao (dM 64 (gV 4) (aP bH (aq (cV 3) (aI))) uc (aC)) (aC)) [some (.val 2 (vN N)),some (.val 1 (fj m)),some (.val 1 ((gh (dw N) (List.range' 0 n) o').map AV.int:List AV)),w3,w4,w5,w6] xs Q)->
   FX OS (De L d kt) Y (WC L 1) 3 0 (ao (dM 64 (gV 4) (aP bH (aq (cV 3) (aI))) uc (aC)) (aC)) [some (.val 2 (vN N)),some (.val 1 (fj m)),some (.val 1 (o'.map AV.int:List AV)),w3,w4,w5,w6] (AV.int (n:Int)::xs) Q:=λ n xs o' Q w3 w4 w5 w6 O' Lo' hn hx=>by
  refine .nextE _ _ _ _ _ (yq H hd O' Lo' (n:=n) hn) (λ q hq=>by refine qQ hq λ _ _ _ _ z1_=>?_;clear hq;subst z1_;simp) λ q hq=>?_
  refine qQ hq λ w3 w4 w5 w6 z1_=>?_;clear hq;subst z1_
  exact hx w3 w4 w5 w6
 rcases H.hm with rfl|rfl
 ·have hr:EI OS (De L d kt) Y (WC L 1) (bl Y (WC L 1) [some (.val 2 (vN N)),some (.val 1 (fj 4)),some (.val 1 (o.map AV.int:List AV)),none,none,none,none]) [some (.val 2 (vN N)),some (.val 1 (fj 4)),some (.val 1 (o.map AV.int:List AV)),none,none,none,none] (aP bH (aq (eS eW (aP dJ (aq (cV 2) (aI))) (cC (.int 1))) (aq (cC (.int 0)) (aq (nz (cC (.int 1))) (aI))))) 0 [.int 3,.int 2,.int 1]:=
   fC (ts:=[3,0,-1]) (a:=3) (b:=0) (c:=-1) (n:=3) (bc (hl rfl) (bc (cS rfl) (bc (pH (cS rfl)) ci))) rfl (by decide) (by decide)
  refine d5 (P:=λ q=>∃w3 w4 w5 w6,q=[some (.val 2 (vN N)),some (.val 1 (fj 4)),some (.val 1 ((gh (dw N) (l4 4) o).map AV.int:List AV)),w3,w4,w5,w6]) (iE (n:=0) (i:=3) (xs:=[AV.int 3,.int 2,.int 1]) rfl (by simp) (λ k h=>by cases h) (by show 3<64;decide) hr ?_) λ q hq=>?_
  ·refine step 3 _ o _ none none none none O Lo (by decide) λ w3 w4 w5 w6=>?_
   refine step 2 _ _ _ w3 w4 w5 w6 (O.perm dQ) (gu Lo) (by decide) λ w3 w4 w5 w6=>?_
   refine step 1 _ _ _ w3 w4 w5 w6 ((O.perm dQ).perm dQ) (gu (gu Lo)) (by decide) λ w3 w4 w5 w6=>?_
   exact .nilE _ _ ⟨w3,w4,w5,w6,rfl⟩
  ·refine qQ hq λ w3 w4 w5 w6 z1_=>?_;clear hq;subst z1_
   exact fin
 ·have hr:EI OS (De L d kt) Y (WC L 1) (bl Y (WC L 1) [some (.val 2 (vN N)),some (.val 1 (fj 5)),some (.val 1 (o.map AV.int:List AV)),none,none,none,none]) [some (.val 2 (vN N)),some (.val 1 (fj 5)),some (.val 1 (o.map AV.int:List AV)),none,none,none,none] (aP bH (aq (eS eW (aP dJ (aq (cV 2) (aI))) (cC (.int 1))) (aq (cC (.int 0)) (aq (nz (cC (.int 1))) (aI))))) 0 [.int 4,.int 3,.int 2,.int 1]:=
   fC (ts:=[4,0,-1]) (a:=4) (b:=0) (c:=-1) (n:=4) (bc (hl rfl) (bc (cS rfl) (bc (pH (cS rfl)) ci))) rfl (by decide) (by decide)
  refine d5 (P:=λ q=>∃w3 w4 w5 w6,q=[some (.val 2 (vN N)),some (.val 1 (fj 5)),some (.val 1 ((gh (dw N) (l4 5) o).map AV.int:List AV)),w3,w4,w5,w6]) (iE (n:=0) (i:=3) (xs:=[AV.int 4,.int 3,.int 2,.int 1]) rfl (by simp) (λ k h=>by cases h) (by show 4<64;decide) hr ?_) λ q hq=>?_
  ·refine step 4 _ o _ none none none none O Lo (by decide) λ w3 w4 w5 w6=>?_
   refine step 3 _ _ _ w3 w4 w5 w6 (O.perm dQ) (gu Lo) (by decide) λ w3 w4 w5 w6=>?_
   refine step 2 _ _ _ w3 w4 w5 w6 ((O.perm dQ).perm dQ) (gu (gu Lo)) (by decide) λ w3 w4 w5 w6=>?_
   refine step 1 _ _ _ w3 w4 w5 w6 (((O.perm dQ).perm dQ).perm dQ) (gu (gu (gu Lo))) (by decide) λ w3 w4 w5 w6=>?_
   exact .nilE _ _ ⟨w3,w4,w5,w6,rfl⟩
  ·refine qQ hq λ w3 w4 w5 w6 z1_=>?_;clear hq;subst z1_
   exact fin
end
noncomputable abbrev Dl (kt:Nat->Option (List AV)):Dn:=⟨[none,none,some 0,some 1,none,some 2,none,some 3],8,true,kt⟩
noncomputable abbrev Wl:Nat->Prop:=WC 0 4
noncomputable abbrev Xl:Nat->Prop:=λ _=>False
noncomputable abbrev E8 (w0 w1 w2 w3 w4 w5 w6 w7:Option VV):VE:=[w0,w1,w2,w3,w4,w5,w6,w7]
noncomputable def ta (β:Int->Int)(l:List Int):List Int:=js (λ j=>β j != 0) l
noncomputable def ve (k:Nat):List Int:=(List.range' 0 k).map λ j:Nat=>(j:Int)
noncomputable def gF (m:Nat)(β:Nat->Int->Int):List (List Int):=(List.range' 0 m).map λ k=>ta (β k) (ve k)
noncomputable abbrev manyE (tb:Tb):EF:=uU (uV tb (aP (jK tb) (aq (cV 0) (aI))) (cC (.int 4))) (cC (.int 5)) (cC (.int 4))
noncomputable abbrev numE (tb:Tb):EF:=jR (k_ tb (cV 0) (cC .none) (cC (.int 4))) (k9 tb (dj (aq (cC (.int 1)) (aq (cC (.int 1)) (aq (cC (.int 4)) (aq (cC (.int 9)) (aI)))))) (aP (jK tb) (aq (cV 0) (aI))))
noncomputable abbrev onE (tb:Tb):EF:=jR (k_ tb (cV 0) (cC (.int 4)) (cC (.int 9))) (dj (aq (cC (.int 0)) (aq (cC (.int 0)) (aq (cC (.int 0)) (aq (cC (.int 0)) (aq (cC (.int 0)) (aI)))))))
noncomputable abbrev needE (tb:Tb):EF:=dq 64 3 1 [.loc,.new 0,.old 2] (aP bH (aq (cV 1) (aI))) (gV 1) (c8) [] (dq 64 4 0 [.loc,.loc,.old 1,.old 2] (aP bH (aq (cV 1) (aI))) (gV 1) (tE (jJ tb (bN (cV 3) (eS eW (cV 2) (cC (.int 1)))) (cV 1))) [] (cV 1))
noncomputable abbrev signE (tb:Tb):EF:=dq 64 4 0 [.loc,.loc,.old 5,.old 2] (aP bH (aq (cV 1) (aI))) (gV 1) (c8) [] (bN (aP (gz 2 fm) (aq (eS dN (bN (cV 2) (cV 1)) (hO tb (bN (cV 3) (eS eW (cV 1) (cC (.int 1)))) (cC (.int 512)))) (aI))) (cC (.int 0)))
noncomputable abbrev allE:EF:=aP pQ (aq (dq 64 5 0 [.loc,.loc,.loc,.old 3,.old 7] (aP bH (aq (cV 1) (aI))) (gV 1) (c8) (⟨gV 2,bN (cV 3) (cV 1),c8⟩::[]) (cT (nA false (cV 2) (f6 (cV 4) (cC .none) (cc .list jo (cV 4) (aq (cV 1) (aI))))))) (aI))
structure sf (tb:Tb) (m:Nat) (nums on:List AV) (β:Nat->Int->Int):Prop where
 hm:m=4∨m=5
 many:∀{D:Dn} {X W:Nat->Prop} {env:VE},env[0]? =some (some (.val 0 (.kt 999)))->EX OS D X W env (manyE tb) 0 (.int m)
 num:∀{D:Dn} {X W:Nat->Prop} {env:VE},env[0]? =some (some (.val 0 (.kt 999)))->EX OS D X W env (numE tb) 1 nums
 onm:∀{D:Dn} {X W:Nat->Prop} {env:VE},env[0]? =some (some (.val 0 (.kt 999)))->EX OS D X W env (onE tb) 1 on
 len:nums.length=4
 bit:∀k,1<=k->k<=4->∃x,nums[k - 1]? =some x/\∀j:Nat,j<k->nD tb x j=some (β k j)
 mod:∀x∈nums,∃r:Nat,r<512/\mN tb x 512=some (r:Int)
 olen:on.length<=100
 omod:∀k,k<m->∃x,on[k]? =some x/\∀n:Nat,1<=n->n<=5->∃c:Nat,mN tb x n=some (c:Int)/\c<n
theorem rs6 {n:Nat}(h:n<=5):Builtin.Range.small 0 (n:Int) 1=true/\(Builtin.Range.rangeSize 0 (n:Int) 1).toNat=n:=by
 have:n=0∨n=1∨n=2∨n=3∨n=4∨n=5:=by exact ω473 h
 rcases this with rfl|rfl|rfl|rfl|rfl|rfl<;>exact⟨by decide,by decide⟩
theorem yG (k:Nat):fF 0 k=(ve k).map AV.int:=by
 unfold fF ve
 rw[List.map_map]
 rfl
theorem j0 {m:Nat}{x:AV}(h:x∈fF 0 m):∃k,k<m/\x=AV.int ((k:Nat):Int):=by
 unfold fF at h
 refine aQ (List.mem_map.mp h) λ k hk z1_=>?_;subst z1_
 rw[List.mem_range'_1]at hk
 exact⟨k,by exact sp hk,rfl⟩
theorem gm {k n:Nat}:(fF k n).length=n:=by unfold fF;rw[aD,List.length_range']
theorem yJ {k:Nat}{j:Int}(h:j∈ve k):∃i:Nat,j=(i:Int)/\i<k:=by
 unfold ve at h
 refine aQ (List.mem_map.mp h) λ i hi z1_=>?_;subst z1_
 rw[List.mem_range'_1]at hi
 exact⟨i,rfl,by exact sp hi⟩
theorem id_nd (k:Nat):(ve k).Nodup:=by
 unfold ve
 rw[List.nodup_iff_pairwise_ne,List.pairwise_map]
 refine List.Pairwise.imp (λ{a b} h e=>h (Int.ofNat.inj e)) (List.nodup_range' (s:=0) (n:=k) (step:=1))
theorem kN (q:Int->Bool):∀l:List Int,((l.map AV.int).filter (λ v=>v.i false q)).map id=(js q l).map AV.int
 |[]=>rfl
 |k::l=>by
  show(((.int k)::l.map AV.int).filter (λ v=>v.i false q)).map id=(bb (q k) (k::js q l) (js q l)).map AV.int
  cases z:q k with
  |true=>
   rw[List.filter_cons_of_pos (by exact z),bg,kN q l]
   rfl
  |false=>
   rw[List.filter_cons_of_neg (by show¬q k=true;rw[z];nofun),kN q l]
   rfl
section
variable{tb:Tb}{m:Nat}{nums on:List AV}{β:Nat->Int->Int}{kt:Nat->Option (List AV)}
theorem tR (T:sf tb m nums on β){L':Nat}{X2:Nat->Prop}(k:Nat)(hk:k<=4):
  EX OS ⟨[none,some (L'+1+0),some 0],8,true,kt⟩ X2 (WI L' 1) [none,some (.val 0 (.int k)),some (.val 1 nums)] (dq 64 4 0 [.loc,.loc,.old 1,.old 2] (aP bH (aq (cV 1) (aI))) (gV 1) (tE (jJ tb (bN (cV 3) (eS eW (cV 2) (cC (.int 1)))) (cV 1))) [] (cV 1)) 1 ((ta (β k) (ve k)).map AV.int:List AV):=by
 have hr:EI OS ⟨[none,some (L'+1+0),some 0],8,true,kt⟩ X2 (WI L' 1) (WI L' 1) [none,some (.val 0 (.int k)),some (.val 1 nums)] (aP bH (aq (cV 1) (aI))) 0 (fF 0 k):=
  (fC (ts:=[(k:Int)]) (a:=0) (b:=k) (c:=1) (n:=k) (bc (bJ rfl) ci) rfl (rs6 (wU hk)).1 (rs6 (wU hk)).2).cast (iX _)
 have hz:(fF 0 k).length<64:=by rw[gm];exact ω484 hk
 have hz2:(fF 0 k).length<=1000:=by rw[gm];exact ω485 hk
 have hc:=g8 (O:=OS) (D:=⟨[none,some (L'+1+0),some 0],8,true,kt⟩) (X:=X2) (W:=WI L' 1) (env:=[none,some (.val 0 (.int k)),some (.val 1 nums)]) (fuel:=64) (nv:=4) (nc:=0) (ti:=1) (n:=0) (m:=0) (vk:=[.loc,.loc,.old 1,.old 2]) (it:=aP bH (aq (cV 1) (aI))) (ex:=cV 1) (ifs:=tE (jJ tb (bN (cV 3) (eS eW (cV 2) (cC (.int 1)))) (cV 1))) (xs:=fF 0 k) (p:=λ v=>v.i false λ j=>β k j != 0) (g:=id) rfl rfl (λ b=>⟨_,rfl⟩) hr hz hz2 (λ L2 cs3 h3 x hx=>by
  have h3:cs3=[none,none,some (L'+1+0),some 0]:=(aj h3).symm
  subst h3
  refine aQ (j0 hx) λ i hi z1_=>?_;subst z1_
  refine aQ (T.bit k (ω252 hi) hk) λ y hy hb=>?_
  refine⟨?_,λ _=>bJ rfl⟩
  have hp:bE ((k:Int) - 1) 4=some (k - 1):=by
   have:=dc (k:=k - 1) (n:=4) (ω474 hk)
   rw[show((k - 1:Nat):Int)=(k:Int) - 1 by exact ω475 hi]at this
   exact this
  have hsub:=dU (O:=OS) (D:=⟨[none,none,some (L'+1+0),some 0],8,true,kt⟩) (X:=bl X2 (WI L' 1) [none,some (.val 0 (.int k)),some (.val 1 nums)]) (W:=WI L2 0) (env:=[none,some (.val 0 (.int i)),some (.val 0 (.int k)),some (.val 1 nums)]) (a:=cV 3) (b:=eS eW (cV 2) (cC (.int 1))) (n:=0) (xs:=nums) (i:=(k:Int) - 1) (k:=k - 1) (V:=y) (EX.list (bJ rfl)) (kP (λ _ _=>rfl) (bJ rfl) (cS rfl)) (Nat.le_trans (Nat.le_of_eq T.len) (by decide)) (by show bE _ (List.length (α:=AV) nums)=_;rw[T.len];exact hp) hy
  exact wk hsub (bJ rfl) (hb i hi))
 change EX OS ⟨[none,some (L'+1+0),some 0],8,true,kt⟩ X2 (WI L' 1) _ _ 1 (((fF 0 k).filter (λ v=>v.i false λ j=>β k j != 0)).map id:List AV)at hc
 rw[yG,kN]at hc
 exact hc
theorem mQ (hm:m=4∨m=5){D:Dn}{X W M:Nat->Prop}{env:VE}(h:env[1]? =some (some (.val 0 (.int m)))):EI OS D X W M env (aP bH (aq (cV 1) (aI))) 0 (fF 0 m):=
 (fC (ts:=[(m:Int)]) (a:=0) (b:=m) (c:=1) (n:=m) (bc (bJ h) ci) rfl (rs6 (sr hm)).1 (rs6 (sr hm)).2).cast (iX _)
theorem qA {α:Type}(m:Nat)(d:α)(f:Int->α):((fF 0 m).filter λ _=>true).map (λ v=>v.i d f)=(List.range' 0 m).map λ k:Nat=>f (k:Int):=by
 rw[List.filter_eq_self.mpr (λ _ _=>rfl)]
 unfold fF
 rw[List.map_map]
 rfl
theorem tS (T:sf tb m nums on β){w0 w3 w4 w5 w6 w7:Option VV}:EX OS (Dl kt) Xl Wl (E8 w0 (some (.val 0 (.int m))) (some (.val 1 nums)) w3 w4 w5 w6 w7) (needE tb) 2 (vN (gF m β)):=by
 have hm:=T.hm
 have hz:(fF 0 m).length<64:=by rw[gm];exact wW hm
 have hz2:(fF 0 m).length<=1000:=by rw[gm];exact sq hm
 have hc:=g8 (O:=OS) (D:=Dl kt) (X:=Xl) (W:=Wl) (env:=E8 w0 (some (.val 0 (.int m))) (some (.val 1 nums)) w3 w4 w5 w6 w7) (fuel:=64) (nv:=3) (nc:=1) (ti:=1) (n:=0) (m:=1) (vk:=[.loc,.new 0,.old 2]) (it:=aP bH (aq (cV 1) (aI))) (ex:=dq 64 4 0 [.loc,.loc,.old 1,.old 2] (aP bH (aq (cV 1) (aI))) (gV 1) (tE (jJ tb (bN (cV 3) (eS eW (cV 2) (cC (.int 1)))) (cV 1))) [] (cV 1)) (ifs:=c8) (xs:=fF 0 m) (p:=λ _=>true) (g:=λ v=>v.i [] λ k=>((ta (β k.toNat) (ve k.toNat)).map AV.int:List AV)) rfl rfl (λ b=>⟨_,rfl⟩) (mQ (M:=Wl) T.hm rfl) hz hz2 (λ L' cs2 h2 x hx=>by
  have h2:cs2=[none,some (L'+1+0),some 0]:=(aj h2).symm
  subst h2
  refine aQ (j0 hx) λ k hk z1_=>?_;subst z1_
  exact⟨ij,λ _=>tR T k (ω477 hk hm)⟩)
 refine EX.cast hc ((qA m [] _).trans ?_)
 unfold vN gF
 rw[List.map_map]
 rfl
theorem nd_at {k:Nat}(h:k<m):(gF m β)[k]? =some (ta (β k) (ve k)):=by
 unfold gF
 rw[aB,List.getElem?_range' (by exact h)]
 simp
noncomputable abbrev fR:List AV:=[.int 16384,.int 8192,.int 24576,.int 4096,.int 40960]
theorem iU (T:sf tb m nums on β){X W:Nat->Prop}(k:Nat)(q:Nat)(hq:q∈[4,2,6,1,10])(kv:Int)(hkv:fR[k]? =some (.int kv))(hkq:kv=((q*4096:Nat):Int))(hk:k<5)(hl:tZ (k:Int)=yz q)(j:Nat)(hj:j<4)(hp:bE ((k:Int) - 1) 4=some j):
  EX OS ⟨[none,none,some 2,some 0],8,true,kt⟩ X W [none,some (.val 0 (.int k)),some (.val 1 fR),some (.val 1 nums)] (bN (aP (gz 2 fm) (aq (eS dN (bN (cV 2) (cV 1)) (hO tb (bN (cV 3) (eS eW (cV 1) (cC (.int 1)))) (cC (.int 512)))) (aI))) (cC (.int 0))) 0 (.str [tZ (k:Int)]):=by
 have hjn:j<nums.length:=by rw[T.len];exact hj
 have hx:nums[j]? =some nums[j]:=ae hjn
 generalize nums[j]=x at hx
 refine aQ (T.mod x (ac hx)) λ r hr hmd=>?_
 have e1:EX OS ⟨[none,none,some 2,some 0],8,true,kt⟩ X W [none,some (.val 0 (.int k)),some (.val 1 fR),some (.val 1 nums)] (bN (cV 2) (cV 1)) 0 (.int kv):=dU (n:=0) (xs:=fR) (i:=(k:Int)) (k:=k) (EX.list (bJ (i:=2) rfl)) (bJ (i:=1) rfl) (by show 5<=1000;decide) (dc (by show k<5;exact hk)) hkv
 have e2:EX OS ⟨[none,none,some 2,some 0],8,true,kt⟩ X W [none,some (.val 0 (.int k)),some (.val 1 fR),some (.val 1 nums)] (bN (cV 3) (eS eW (cV 1) (cC (.int 1)))) 0 x:=dU (n:=0) (xs:=nums) (i:=(k:Int) - 1) (k:=j) (EX.list (bJ (i:=3) rfl)) (kP (λ _ _=>rfl) (bJ (i:=1) rfl) (cS rfl)) (Nat.le_trans (Nat.le_of_eq T.len) (by decide)) (by show bE _ (List.length (α:=AV) nums)=_;rw[T.len];exact hp) hx
 have e3:EX OS ⟨[none,none,some 2,some 0],8,true,kt⟩ X W [none,some (.val 0 (.int k)),some (.val 1 fR),some (.val 1 nums)] (eS dN (bN (cV 2) (cV 1)) (hO tb (bN (cV 3) (eS eW (cV 1) (cC (.int 1)))) (cC (.int 512)))) 0 (.int (.ofNat (q*4096+r))):=EX.cast (kP (c:=kv+(r:Int)) (λ _ _=>rfl) e1 (qL e2 (cS rfl) hmd)) (by rw[hkq];exact congrArg AV.int (Int.natCast_add _ _).symm)
 rw[hl]
 exact wh (l:=tx q r) (i:=0) (k:=0) (qK (d0:=2) (fl:=[.int (.ofNat (q*4096+r))]) rfl (by show 3<=8;decide) (bc e3 ci) (fm_at hq hr) rfl) (cS rfl) (by show 10<=1000;decide) rfl rfl
theorem vz (T:sf tb m nums on β){w0 w3 w4 w6 w7:Option VV}:EX OS (Dl kt) Xl Wl (E8 w0 (some (.val 0 (.int m))) (some (.val 1 nums)) w3 w4 (some (.val 1 fR)) w6 w7) (signE tb) 1 (fj m):=by
 have hm:=T.hm
 have hz:(fF 0 m).length<64:=by rw[gm];exact wW hm
 have hz2:(fF 0 m).length<=1000:=by rw[gm];exact sq hm
 have hc:=g8 (O:=OS) (D:=Dl kt) (X:=Xl) (W:=Wl) (env:=E8 w0 (some (.val 0 (.int m))) (some (.val 1 nums)) w3 w4 (some (.val 1 fR)) w6 w7) (fuel:=64) (nv:=4) (nc:=0) (ti:=1) (n:=0) (m:=0) (vk:=[.loc,.loc,.old 5,.old 2]) (it:=aP bH (aq (cV 1) (aI))) (ex:=bN (aP (gz 2 fm) (aq (eS dN (bN (cV 2) (cV 1)) (hO tb (bN (cV 3) (eS eW (cV 1) (cC (.int 1)))) (cC (.int 512)))) (aI))) (cC (.int 0))) (ifs:=c8) (xs:=fF 0 m) (p:=λ _=>true) (g:=λ v=>v.i .none λ k=>AV.str [tZ k]) rfl rfl (λ b=>⟨_,rfl⟩) (mQ (M:=Wl) T.hm rfl) hz hz2 (λ L' cs2 h2 x hx=>by
  have h2:cs2=[none,none,some 2,some 0]:=(aj h2).symm
  subst h2
  refine aQ (j0 hx) λ k hk z1_=>?_;subst z1_
  refine⟨ij,λ _=>?_⟩
  have:k=0∨k=1∨k=2∨k=3∨k=4:=by exact ω478 hk hm
  rcases this with rfl|rfl|rfl|rfl|rfl
  ·exact iU T 0 4 (by simp) 16384 rfl (by decide) (by decide) rfl 3 (by decide) rfl
  ·exact iU T 1 2 (by simp) 8192 rfl (by decide) (by decide) rfl 0 (by decide) rfl
  ·exact iU T 2 6 (by simp) 24576 rfl (by decide) (by decide) rfl 1 (by decide) rfl
  ·exact iU T 3 1 (by simp) 4096 rfl (by decide) (by decide) rfl 2 (by decide) rfl
  ·exact iU T 4 10 (by simp) 40960 rfl (by decide) (by decide) rfl 3 (by decide) rfl)
 refine EX.cast hc ((qA m AV.none _).trans ?_)
 rcases T.hm with rfl|rfl<;>rfl
theorem n_ {k:Int}:∀{o:List Int},k∈o->∃i,pz k o=some i/\o[i]? =some k
 |[],h=>by cases h
 |a::o,h=>by
  show∃i,bb (a == k) (some 0) (Op.b (pz k o) none λ i=>some (Nat.succ i))=some i/\_
  cases q:a == k with
  |true=>exact⟨0,rfl,congrArg some (eq_of_beq q)⟩
  |false=>
   refine aQ (n_ (o:=o) ((List.mem_cons.mp h).resolve_left λ e=>by rw[e,beq_self_eq_true]at q;cases q)) λ i h1 h2=>?_
   exact⟨i+1,by rw[h1];rfl,h2⟩
theorem lg (f:Int->List Int):∀l:List Nat,(l.map λ j:Nat=>AV.int (j:Int)).flatMap (λ v=>v.i [] λ k=>((f k).map AV.int).flatMap λ _=>[AV.bool true])=(l.flatMap λ j:Nat=>(f (j:Int)).map λ _=>true).map AV.bool
 |[]=>rfl
 |a::l=>by
  rw[bg,List.flatMap_cons,List.flatMap_cons,List.map_append,lg f l]
  congr 1
  show((f (a:Int)).map AV.int).flatMap (λ _=>[AV.bool true])=_
  induction f (a:Int)with
  |nil=>rfl
  |cons b m ih=>rw[bg,List.flatMap_cons,ih];rfl
theorem zn {N:List (List Int)}(H:NOk m N){o:List Int}(O:Ord m o)(Lo:LO (dw N) o []){w0 w2 w4 w5 w6:Option VV}:
  ET OS (Dl kt) Xl Wl (E8 w0 (some (.val 0 (.int m))) w2 (some (.val 2 (vN N))) w4 w5 w6 (some (.val 1 (o.map AV.int:List AV)))) (lx (tE allE)) false:=by
 have h5:=H.m5
 have hN5:∀k:Nat,k<m->(dw N (k:Int)).length<=5:=λ k hk=>H.five (ac (H.at' (k:=(k:Int)) (pW hk)))
 have hz:(fF 0 m).length<64:=by rw[gm];exact su h5
 have hl:∀l:List Nat,(∀k∈l,k<m)->(l.flatMap λ j:Nat=>(dw N (j:Int)).map λ _=>true).length<=5*l.length:=by
  intro l hl
  induction l with
  |nil=>simp
  |cons a l ih=>
   have h1:=hN5 a (hl a aT)
   have h2:=ih λ x hx=>hl x (ar _ hx)
   rw[List.flatMap_cons,aU,aD,bL]
   exact ω269 h1 h2
 have hl2:=hl (List.range' 0 m) (λ k hk=>by rw[List.mem_range'_1]at hk;exact sp hk)
 rw[List.length_range']at hl2
 have hfl:((fF 0 m).flatMap (λ v=>v.i [] λ k=>((dw N k).map AV.int).flatMap λ _=>[AV.bool true])).length<=1000:=by
  unfold fF
  rw[lg,aD]
  exact wV hl2 h5
 have hc:=qM (O:=OS) (D:=Dl kt) (X:=Xl) (W:=Wl) (env:=E8 w0 (some (.val 0 (.int m))) w2 (some (.val 2 (vN N))) w4 w5 w6 (some (.val 1 (o.map AV.int:List AV)))) (fuel:=64) (nv:=5) (nc:=0) (ti:=1) (n:=0) (m:=0) (vk:=[.loc,.loc,.loc,.old 3,.old 7]) (it:=aP bH (aq (cV 1) (aI))) (ex:=cT (nA false (cV 2) (f6 (cV 4) (cC .none) (cc .list jo (cV 4) (aq (cV 1) (aI)))))) (ifs:=c8) (cls:=⟨gV 2,bN (cV 3) (cV 1),c8⟩::[]) (xs:=fF 0 m) (f:=λ v=>v.i [] λ k=>((dw N k).map AV.int).flatMap λ _=>[AV.bool true]) rfl rfl (λ b=>⟨_,rfl⟩) (mQ (M:=Wl) H.hm rfl) hz hfl (λ L cs' h2 x hx=>by
  have h2:cs'=[none,none,none,some 1,some 3]:=(aj h2).symm
  subst h2
  refine aQ (j0 hx) λ k hk z1_=>?_;subst z1_
  have hN:=H.at' (k:=(k:Int)) (pW hk)
  have hNk:=hN5 k hk
  refine⟨true,ij,λ _=>?_,nofun⟩
  exact r8 (n:=0) (m:=0) (ti:=2) (env:=[none,some (.val 0 (.int k)),none,some (.val 2 (vN N)),some (.val 1 (o.map AV.int:List AV))]) (xs:=(dw N (k:Int)).map AV.int) (f:=λ _=>[AV.bool true]) rfl (λ k h=>by cases h) ⟨Nat.le_refl _,aZ _ _⟩
   (wq (EX.list (dU (n:=1) (xs:=vN N) (i:=(k:Int)) (k:=k) (V:=((dw N (k:Int)).map AV.int:List AV)) (EX.list (bJ (i:=3) rfl)) (bJ (i:=1) rfl) (by show(vN N).length<=1000;rw[fW,H.len];exact iw h5) (by show bE _ (vN N).length=_;rw[fW,H.len];exact dc hk) (sH hN)))) (dI (cg _ hNk) (by decide)) λ y hy=>by
    refine aQ (List.mem_map.mp hy) λ j hj z1_=>?_;subst z1_
    refine⟨true,ij,λ _=>?_,nofun⟩
    have hko:(k:Int)∈o:=tT (a:=o) (b:=cz m) O.nd (λ x hx=>(H.gr.mem x).mpr (O.lt x hx)) (by rw[H.gr.len,O.len];exact Nat.le_refl _) ((H.gr.mem _).mpr (pW hk))
    refine aQ (n_ hko) λ i hi hoi=>?_
    have hlt:=(aa.mp hoi).1
    have hjm:j∈o.take i:=n5 Lo.lin hoi j hj
    have lm:(o.map AV.int).length=o.length:=aD ..
    have k1:i<=(o.map AV.int).length:=by rw[lm];exact ω482 hlt
    have k2:(o.map AV.int).length<=1000:=by rw[lm,O.len];exact iw h5
    have k3:(o.take i).length<=1000:=Nat.le_trans (List.length_take_le' _ _) (by rw[O.len];exact iw h5)
    have ol:o.length<=1000:=by rw[O.len];exact iw h5
    have ix:=ur (O:=OS) (D:=⟨[none,none,none,some 1,some 3],8,true,kt⟩) (X:=bl Xl Wl (E8 w0 (some (.val 0 (.int m))) w2 (some (.val 2 (vN N))) w4 w5 w6 (some (.val 1 (o.map AV.int:List AV))))) (W:=WI L 0) (env:=[none,some (.val 0 (.int k)),some (.val 0 (.int j)),some (.val 2 (vN N)),some (.val 1 (o.map AV.int:List AV))]) (a:=cV 4) (b:=cV 1) (ns:=o) (i:=(k:Int)) (j:=i) (EX.list (bJ (i:=4) rfl)) (bJ (i:=1) rfl) ol hi
    have sl:=EX.cast (pG (n:=0) (xs:=(o.map AV.int:List AV)) (lo:=none) (hi:=some (i:Int)) (EX.list (bJ (i:=4) rfl)) (cS (v:=.none) rfl) ix rfl rfl k2) ((nQ k1).trans List.map_take.symm)
    have t:=xL (neg:=false) (a:=cV 2) (i:=j) (ns:=o.take i) (bJ (i:=2) rfl) (EX.list sl) k3
    exact q9 ⟨Nat.le_refl _,aZ _ _⟩ (ex_t (t.cast (by rw[List.contains_iff_mem.mpr hjm];rfl))))
 have e:((fF 0 m).flatMap (λ v=>v.i [] λ k=>((dw N k).map AV.int).flatMap λ _=>[AV.bool true]))=((List.range' 0 m).flatMap λ j:Nat=>(dw N (j:Int)).map λ _=>true).map AV.bool:=by
  unfold fF
  exact lg _ _
 have ht:=yZ rfl (EX.list (EX.cast hc e)) (wV hl2 h5)
 have:((List.range' 0 m).flatMap λ j:Nat=>(dw N (j:Int)).map λ _=>true).all id=true:=by
  rw[List.all_eq_true]
  intro b hb
  refine aQ (List.mem_flatMap.mp hb) λ k hk hb=>?_
  refine aQ (List.mem_map.mp hb) λ j hj z1_=>?_;subst z1_
  rfl
 rw[this]at ht
 exact uv (wj ht)
end
section
variable{tb:Tb}{m:Nat}{nums on:List AV}{β:Nat->Int->Int}{kt:Nat->Option (List AV)}
theorem yD (T:sf tb m nums on β)(H:NOk m (gF m β)):SX OS (Dl kt) Xl Wl (jt [.mk 0 (AV.kt 999)] 8) (re tb) (.rt 0 (AV.bool true)):=by
 have h5:=H.m5
 show SX OS (Dl kt) Xl Wl (E8 (some (.val 0 (AV.kt 999))) none none none none none none none) _ _
 unfold re
 have cell:∀{i c:Nat},(Dl kt).cs[i]? =some (some c)->∀k,(Dl kt).cs[i]? =some (some k)->Wl k:=λ{i c} h k e=>by
  have:i<8:=(aa.mp h).1
  rw[e]at h
  cases h
  match i,this,e with
  |0,_,e=>cases e
  |1,_,e=>cases e
  |2,_,e=>cases e;exact⟨by exact ω486,by exact ω488⟩
  |3,_,e=>cases e;exact⟨by exact ω489,by exact ω490⟩
  |4,_,e=>cases e
  |5,_,e=>cases e;exact⟨by exact ω491,by exact ω492⟩
  |6,_,e=>cases e
  |7,_,e=>cases e;exact⟨by exact ω493,by exact ω494⟩
  |n+8,h,_=>exact(ω495 h).elim
 refine bW (tH (tb:=tb) (nums:=on) (d:=7) (kt:=kt) H (by decide) T.olen T.omod) λ o O Lo ho=>?_
 have oz:o.length<=1000:=by rw[O.len];exact iw h5
 have nn:∀{p:List Int},Ord m p->ET OS (Dl kt) Xl Wl (E8 (some (.val 0 (AV.kt 999))) (some (.val 0 (.int m))) (some (.val 1 nums)) (some (.val 2 (vN (gF m β)))) (some (.val 1 (o.map AV.int:List AV))) (some (.val 1 fR)) (some (.val 1 (fj m))) (some (.val 1 ((gh (dw (gF m β)) (l4 m) o).map AV.int:List AV)))) gH (false):=λ _=>kR
 have O1:Ord m (gh (dw (gF m β)) (l4 m) o):=O.perm dQ
 have Lo1:LO (dw (gF m β)) (gh (dw (gF m β)) (l4 m) o) []:=gu Lo
 have oz1:(gh (dw (gF m β)) (l4 m) o).length<=1000:=by rw[O1.len];exact iw h5
 have ne:∀{p:List Int},Ord m p->(p == [])=false:=λ{p} Op=>by
  cases p with
  |nil=>have:=Op.len;exact absurd (show 0=m from this) (ω487 h5)
  |cons=>rfl
 refine b8 (fX (i:=1) (n:=0) (V:=AV.int m) (by simp) (λ k h=>by cases h) (T.many rfl)) ?_
 refine b8 (fX (i:=2) (n:=1) (V:=nums) (by simp) (cell (i:=2) rfl) (T.num rfl)) ?_
 refine b8 (fX (i:=3) (n:=2) (V:=vN (gF m β)) (by simp) (cell (i:=3) rfl) (tS T)) ?_
 refine b8 (fX (i:=4) (n:=1) (V:=(o.map AV.int:List AV)) (by simp) (λ k h=>by cases h) (oc (d:=7) (ts:=[.mk 2 (vN (gF m β)),.mk 1 on]) rfl (bc (n:=2) (V:=vN (gF m β)) (bJ (i:=3) rfl) (bc (n:=1) (V:=on) (T.onm rfl) ci)) (by show 2<=6;decide) rfl ho)) ?_
 refine b8 (fX (i:=5) (n:=1) (V:=fR) (by simp) (cell (i:=5) rfl) (g7 (n:=0) (xs:=fR) (bc (cS rfl) (bc (cS rfl) (bc (cS rfl) (bc (cS rfl) (bc (cS rfl) ci))))) (by show 5<=1000;decide))) ?_
 refine b8 (fX (i:=6) (n:=1) (V:=fj m) (by simp) (λ k h=>by cases h) (vz T)) ?_
 refine b8 (fX (i:=7) (n:=1) (V:=((gh (dw (gF m β)) (l4 m) o).map AV.int:List AV)) (by simp) (cell (i:=7) rfl) (og (d:=7) (ts:=[.mk 2 (vN (gF m β)),.mk 1 (fj m),.mk 1 (o.map AV.int:List AV)]) rfl (bc (n:=2) (V:=vN (gF m β)) (bJ (i:=3) rfl) (bc (n:=1) (V:=fj m) (bJ (i:=6) rfl) (bc (n:=1) (V:=(o.map AV.int:List AV)) (bJ (i:=4) rfl) ci))) (by show 3<=7;decide) rfl rfl (λ L=>⟨_,rfl⟩) λ Y L cs' e=>xK H (by decide) O Lo cs' e)) ?_
 show SX OS (Dl kt) Xl Wl (E8 (some (.val 0 (AV.kt 999))) (some (.val 0 (.int m))) (some (.val 1 nums)) (some (.val 2 (vN (gF m β)))) (some (.val 1 (o.map AV.int:List AV))) (some (.val 1 fR)) (some (.val 1 (fj m))) (some (.val 1 ((gh (dw (gF m β)) (l4 m) o).map AV.int:List AV)))) _ _
 have t1:ET OS (Dl kt) Xl Wl (E8 (some (.val 0 (AV.kt 999))) (some (.val 0 (.int m))) (some (.val 1 nums)) (some (.val 2 (vN (gF m β)))) (some (.val 1 (o.map AV.int:List AV))) (some (.val 1 fR)) (some (.val 1 (fj m))) (some (.val 1 ((gh (dw (gF m β)) (l4 m) o).map AV.int:List AV)))) (lb false (cV 4) (dj (aI))) false:=(nb (ns:=o) (ms:=[]) (EX.list (bJ (i:=4) rfl)) (EX.list (g7 (n:=0) (xs:=[]) ci (by decide))) oz (by decide)).cast (by rw[ne O];rfl)
 have t2:ET OS (Dl kt) Xl Wl (E8 (some (.val 0 (AV.kt 999))) (some (.val 0 (.int m))) (some (.val 1 nums)) (some (.val 2 (vN (gF m β)))) (some (.val 1 (o.map AV.int:List AV))) (some (.val 1 fR)) (some (.val 1 (fj m))) (some (.val 1 ((gh (dw (gF m β)) (l4 m) o).map AV.int:List AV)))) (lb false (cV 7) (dj (aI))) false:=(nb (ns:=gh (dw (gF m β)) (l4 m) o) (ms:=[]) (EX.list (bJ (i:=7) rfl)) (EX.list (g7 (n:=0) (xs:=[]) ci (by decide))) oz1 (by decide)).cast (by rw[ne O1];rfl)
 refine b8 (lK (kQ t1 (kQ t2 (kQ (zn H O1 Lo1) kR))) eT) ?_
 refine et (mq (EX.cast (ex_t (nb (neg:=false) (ns:=gh (dw (gF m β)) (l4 m) (gh (dw (gF m β)) (l4 m) o)) (ms:=o) (EX.list (og (d:=7) (m:=1) (V:=((gh (dw (gF m β)) (l4 m) (gh (dw (gF m β)) (l4 m) o)).map AV.int:List AV)) (ts:=[.mk 2 (vN (gF m β)),.mk 1 (fj m),.mk 1 ((gh (dw (gF m β)) (l4 m) o).map AV.int:List AV)]) rfl (bc (n:=2) (V:=vN (gF m β)) (bJ (i:=3) rfl) (bc (n:=1) (V:=fj m) (bJ (i:=6) rfl) (bc (n:=1) (V:=((gh (dw (gF m β)) (l4 m) o).map AV.int:List AV)) (bJ (i:=7) rfl) ci))) (by show 3<=7;decide) rfl rfl (λ L=>⟨_,rfl⟩) λ Y L cs' e=>xK H (by decide) O1 Lo1 cs' e)) (EX.list (bJ (i:=4) rfl)) (by rw[(O1.perm dQ).len];exact iw h5) oz)) ?_))
 rw[ev_ev H.hm Lo,beq_self_eq_true]
 rfl
end
noncomputable def lu (n f:Nat):List AV:=Nat.rec (motive:=λ _=>Nat->List AV) (λ _=>[]) (λ _ ih i=>.kt i::ih (Nat.succ i)) n f
noncomputable def fH (ns:List Int):Tb where
 md:=λ i n=>if 1000<=i/\n≠0 then(ns[i - 1000]?).map λ m=>Int.fmod m n else none
 bt:=λ i j=>if 1000<=i/\0<=j then(ns[i - 1000]?).map λ m=>Builtin.bitAnd (m.fdiv (2 ^ j.toNat)) 1 else none
 sl:=λ i y z=>if i=999 then bb (mc y .none) (bb (mc z (.int 4)) (some (lu (min ns.length 4) 1000)) none) (bb (mc y (.int 4)) (bb (mc z (.int 9)) (some (lu ((ns.drop 4).take 5).length 1004)) none) none)else none
 ln:=λ i=>if i=999 then(if ns.length<=3 then some (.int ns.length)else some (.kt 1999))else none
 cl:=λ i n=>if i=1999/\4<=ns.length/\n<=4 then some n else none
 gt:=λ i n=>if i=1999/\4<=ns.length then some (decide (n<(ns.length:Int)))else none
noncomputable def gX (ns:List Int):List AV:=lu (min ns.length 4) 1000++([AV.int 1,.int 1,.int 4,.int 9]).drop (min ns.length 4)
theorem fQ:∀n f,(lu n f).length=n
 |0,_=>rfl
 |n+1,f=>congrArg (·+1) (fQ n (f+1))
theorem kE:∀n f,(lu n f).all flat=true
 |0,_=>rfl
 |n+1,f=>kE n (f+1)
theorem mV:∀{n f:Nat} {x:AV},x∈lu n f->∃j,j<n/\x= .kt (f+j)
 |0,_,_,h=>by cases h
 |n+1,f,x,h=>by
  rcases List.mem_cons.mp (show x∈AV.kt f::lu n (f+1)from h)with rfl|h
  ·exact⟨0,by exact ω496,rfl⟩
  ·refine aQ (mV h) λ j hj z1_=>?_;subst z1_
   exact⟨j+1,by exact ω507 hj,by rw[show f+(j+1)=f+1+j by exact xf]⟩
noncomputable def gb (ns:List Int)(x:AV)(j:Int):Int:=(nD (fH ns) x j).getD 0
theorem gb_of {ns:List Int}{x:AV}{j:Int}(h:(nD (fH ns) x j).isSome=true):nD (fH ns) x j=some (gb ns x j):=by
 unfold gb
 cases q:nD (fH ns) x j with
 |none=>rw[q]at h;cases h
 |some c=>rfl
theorem j2:∀m∈[(1:Int),4,9],∀j,j<5->(Op.b (fL .RShift m (j:Nat)) none λ q=>fL .BitAnd q 1).isSome=true:=by decide+kernel
theorem qy:∀{n f k:Nat},k<n->(lu n f)[k]? =some (.kt (f+k))
 |0,_,_,h=>absurd h (bK _)
 |n+1,f,0,_=>rfl
 |n+1,f,k+1,h=>by
  have:=qy (n:=n) (f:=f+1) (k:=k) (bu h)
  rw[show f+1+k=f+(k+1)by exact vh]at this
  exact this
theorem tU {ns:List Int}{i:Nat}(h:i<ns.length){n:Nat}(hn:1<=n):∃c:Nat,mN (fH ns) (.kt (1000+i)) n=some (c:Int)/\c<n:=by
 have h0:(0:Int)<n:=by exact ω527 hn
 have h1:=Int.fmod_nonneg_of_pos ns[i] h0
 have h2:=Int.fmod_lt_of_pos ns[i] h0
 refine⟨(Int.fmod ns[i] n).toNat,?_,by exact ω536 h1 h2⟩
 show(if 1000<=1000+i/\(n:Int)≠0 then(ns[1000+i - 1000]?).map _ else none)=_
 rw[if_pos ⟨by exact so,by exact ω539 h1 h2⟩,show 1000+i - 1000=i by exact sn,ae h,Int.toNat_of_nonneg h1]
 rfl
theorem mod_0 {ns:List Int}:∀n:Nat,1<=n->n<=5->∃c:Nat,mN (fH ns) (.int 0) n=some (c:Int)/\c<n
 |1,_,_=>⟨0,rfl,by decide⟩
 |2,_,_=>⟨0,rfl,by decide⟩
 |3,_,_=>⟨0,rfl,by decide⟩
 |4,_,_=>⟨0,rfl,by decide⟩
 |5,_,_=>⟨0,rfl,by decide⟩
 |n+6,_,h=>by exact(ω497 h).elim
theorem zl {ns:List Int}{i:Nat}(h:i<ns.length)(j:Nat):(nD (fH ns) (.kt (1000+i)) j).isSome=true:=by
 show(if 1000<=1000+i/\0<=(j:Int)then(ns[1000+i - 1000]?).map _ else none).isSome=true
 rw[if_pos ⟨by exact so,by exact ω499⟩,show 1000+i - 1000=i by exact sn,ae h]
 rfl
theorem mem4 {α:Type}{P:α->Prop}{a b c d x:α}(h:x∈[a,b,c,d])(h1:P a)(h2:P b)(h3:P c)(h4:P d):P x:=by
 rcases List.mem_cons.mp h with h|h
 ·rw[h];exact h1
 rcases List.mem_cons.mp h with h|h
 ·rw[h];exact h2
 rcases List.mem_cons.mp h with h|h
 ·rw[h];exact h3
 rw[List.mem_singleton.mp h];exact h4
theorem qs {ns:List Int}:(gX ns).length=4:=by
 unfold gX
 rw[aU,fQ,List.length_drop]
 show min ns.length 4+(4 - min ns.length 4)=4
 exact ω514
theorem xC {ns:List Int}(hn:ns.length<=3):(fH ns).ln 999=some (.int ns.length):=by
 show(if 999=999 then(if ns.length<=3 then some (AV.int ns.length)else some (AV.kt 1999))else none)=_
 rw[if_pos rfl,if_pos hn]
theorem t5 {ns:List Int}(hn:¬ns.length<=3):(fH ns).ln 999=some (.kt 1999):=by
 show(if 999=999 then(if ns.length<=3 then some (AV.int ns.length)else some (AV.kt 1999))else none)=_
 rw[if_pos rfl,if_neg hn]
theorem tN {ns:List Int}{x:AV}(h:x∈gX ns){j:Nat}(hj:j<5):(nD (fH ns) x j).isSome=true:=by
 rcases bn.mp h with h|h
 ·refine aQ (mV h) λ i hi z1_=>?_;subst z1_
  exact zl (wT hi) j
 ·have:=List.mem_of_mem_drop h
  exact mem4 (P:=λ x=>(nD (fH ns) x j).isSome=true) this (j2 1 (.head _) j hj) (j2 1 (.head _) j hj) (j2 4 (.tail _ (.head _)) j hj) (j2 9 (.tail _ (.tail _ (.head _))) j hj)
noncomputable def onV (ns:List Int):List AV:=lu ((ns.drop 4).take 5).length 1004++[AV.int 0,.int 0,.int 0,.int 0,.int 0]
noncomputable def mm (ns:List Int):Nat:=if ns.length<=4 then 4 else 5
theorem tX (ns:List Int):∃v c,(fH ns).ln 999=some v/\flat v=true/\gtV (fH ns) v 4=some c/\mm ns=bb c 5 4:=by
 by_cases hn:ns.length<=3
 ·exact⟨_,false,xC hn,rfl,congrArg some (decide_eq_false (ω502 hn)),if_pos (ω503 hn)⟩
 ·by_cases h4:ns.length<=4
  ·exact⟨_,false,t5 hn,rfl,(if_pos ⟨rfl,wS hn⟩).trans (congrArg some (decide_eq_false (ω505 h4))),if_pos h4⟩
  ·exact⟨_,true,t5 hn,rfl,(if_pos ⟨rfl,ω506 h4⟩).trans (congrArg some (decide_eq_true (ω508 h4))),if_neg h4⟩
theorem lawT {ns:List Int}:sf (fH ns) (mm ns) (gX ns) (onV ns) (λ k j=>gb ns ((gX ns).getD (k - 1) .none) j) where
 hm:=by unfold mm;by_cases h:ns.length<=4<;>simp[h]
 many:=λ{D X W env} h=>by
  refine bz (tX ns) λ v c h1 h2 h3 h4=>?_
  have t:=y0 (O:=OS) (D:=D) (X:=X) (W:=W) (env:=env) (m' (bJ h) h1 h2) (cS rfl) h3
  rw[h4]
  cases c<;>exact yY t (cS rfl)
 num:=λ{D X W env} h=>by
  have x1:=qJ (O:=OS) (D:=D) (X:=X) (W:=W) (env:=env) (tb:=fH ns) (a:=cV 0) (l:=cC .none) (u:=cC (.int 4)) (i:=999) (y:=.none) (z:=.int 4) (xs:=lu (min ns.length 4) 1000) (bJ h) (cS rfl) (cS rfl) rfl (kE _ _)
  have x2:=EX.list (g7 (O:=OS) (D:=D) (X:=X) (W:=W) (env:=env) (n:=0) (l:=aq (cC (.int 1)) (aq (cC (.int 1)) (aq (cC (.int 4)) (aq (cC (.int 9)) (aI))))) (xs:=[AV.int 1,.int 1,.int 4,.int 9]) (bc (cS rfl) (bc (cS rfl) (bc (cS rfl) (bc (cS rfl) ci)))) (by decide))
  have hz:(lu (min ns.length 4) 1000).length<=4:=by rw[fQ];exact ω509
  by_cases hn:ns.length<=3
  ·have x3:=oa (tb:=fH ns) x2 (m' (bJ h) (xC hn) rfl) (by decide)
   have x4:=kO (n:=0) (EX.list x1) (EX.list x3) (by
    have:(d7 [AV.int 1,.int 1,.int 4,.int 9] (some (ns.length:Int)) none).length<=4:=jC _ _ _
    exact Nat.le_trans (Nat.add_le_add hz this) (ω510))
   refine EX.cast x4 ?_
   show lu (min ns.length 4) 1000++d7 [AV.int 1,.int 1,.int 4,.int 9] (some (ns.length:Int)) none=_
   unfold gX
   congr 1
   generalize ns.length=n at hn
   cases n with
   |zero=>rfl
   |succ n=>
    cases n with
    |zero=>rfl
    |succ n=>
     cases n with
     |zero=>rfl
     |succ n=>
      cases n with
      |zero=>rfl
      |succ n=>exact absurd hn (by lia)
  ·have hl:=t5 hn
   have hc:(fH ns).cl 1999 4=some 4:=if_pos ⟨rfl,by exact wS hn,by exact ω511⟩
   have x3:=pF (tb:=fH ns) x2 (m' (bJ h) hl rfl) hc (by decide)
   have x4:=kO (n:=0) (EX.list x1) (EX.list x3) (Nat.le_trans (Nat.add_le_add hz (Nat.le_refl _)) (by decide))
   refine EX.cast x4 ?_
   show lu (min ns.length 4) 1000++[AV.int 1,.int 1,.int 4,.int 9].drop 4=_
   unfold gX
   rw[show min ns.length 4=4 by exact ω512 hn]
 onm:=λ{D X W env} h=>by
  have x1:=qJ (O:=OS) (D:=D) (X:=X) (W:=W) (env:=env) (tb:=fH ns) (a:=cV 0) (l:=cC (.int 4)) (u:=cC (.int 9)) (i:=999) (y:=.int 4) (z:=.int 9) (xs:=lu ((ns.drop 4).take 5).length 1004) (bJ h) (cS rfl) (cS rfl) rfl (kE _ _)
  have x2:=EX.list (g7 (O:=OS) (D:=D) (X:=X) (W:=W) (env:=env) (n:=0) (l:=aq (cC (.int 0)) (aq (cC (.int 0)) (aq (cC (.int 0)) (aq (cC (.int 0)) (aq (cC (.int 0)) (aI)))))) (xs:=[AV.int 0,.int 0,.int 0,.int 0,.int 0]) (bc (cS rfl) (bc (cS rfl) (bc (cS rfl) (bc (cS rfl) (bc (cS rfl) ci))))) (by decide))
  have hz:(lu ((ns.drop 4).take 5).length 1004).length<=5:=by rw[fQ,cO];exact ω513
  exact kO (n:=0) (EX.list x1) x2 (Nat.le_trans (Nat.add_le_add hz (Nat.le_refl _)) (by decide))
 len:=qs
 bit:=λ k h1 h4=>by
  have hl:=qs (ns:=ns)
  have hk:k - 1<(gX ns).length:=by exact ω515 h4 hl
  refine⟨(gX ns)[k - 1],ae hk,λ j hj=>?_⟩
  have e:(gX ns).getD (k - 1) .none=(gX ns)[k - 1]:=by rw[aG,ae hk];rfl
  rw[e]
  exact gb_of (tN (List.getElem_mem _) (ω516 hj hk hl))
 mod:=λ x h=>by
  rcases bn.mp h with h|h
  ·refine aQ (mV h) λ i hi z1_=>?_;subst z1_
   refine aQ (tU (ns:=ns) (i:=i) (wT hi) (n:=512) (by decide)) λ c h1 h2=>?_
   exact⟨c,h2,h1⟩
  ·have:=List.mem_of_mem_drop h
   exact mem4 (P:=λ x=>∃r:Nat,r<512/\mN (fH ns) x 512=some (r:Int)) this ⟨1,by decide,rfl⟩ ⟨1,by decide,rfl⟩ ⟨4,by decide,rfl⟩ ⟨9,by decide,rfl⟩
 olen:=by
  unfold onV
  rw[aU,fQ,cO]
  show _+5<=100
  exact ω517
 omod:=λ k hk=>by
  have hm5:mm ns<=5:=by unfold mm;by_cases h:ns.length<=4<;>simp[h]
  have hp:((ns.drop 4).take 5).length=min 5 (ns.length - 4):=by rw[cO,List.length_drop]
  unfold onV
  generalize((ns.drop 4).take 5).length=p at hp
  by_cases q:k<p
  ·refine⟨.kt (1004+k),?_,λ n h1 _=>?_⟩
   ·rw[aL (by rw[fQ];exact q)]
    exact qy q
   ·rw[show 1004+k=1000+(4+k)by exact ω518]
    exact tU (ω519 q hp) h1
  ·refine⟨.int 0,?_,λ n h1 h5=>mod_0 n h1 h5⟩
   rw[az (by rw[fQ];exact ω21 q),fQ]
   have:k - p=0∨k - p=1∨k - p=2∨k - p=3∨k - p=4:=by exact ω520 hk hm5
   rcases this with h|h|h|h|h<;>rw[h]<;>rfl
theorem nok {m:Nat}(hm:m=4∨m=5)(β:Nat->Int->Int):NOk m (gF m β) where
 hm:=hm
 len:=by unfold gF;rw[aD,List.length_range']
 enc:=by
  have sub:∀(q:Int->Bool) (l:List Int),js q l∈gJ l:=λ q l=>by rw[fS];exact jh q l
  rcases hm with rfl|rfl
  ·exact cZ (cZ (cZ all_s _ (sub (λ j=>β 3 j != 0) [0,1,2])) _ (sub (λ j=>β 2 j != 0) [0,1])) _ (sub (λ j=>β 1 j != 0) [0])
  ·exact cZ (cZ (cZ (all_d _ (sub (λ j=>β 4 j != 0) [0,1,2,3])) _ (sub (λ j=>β 3 j != 0) [0,1,2])) _ (sub (λ j=>β 2 j != 0) [0,1])) _ (sub (λ j=>β 1 j != 0) [0])
 sub:=λ k l h=>by
  have hk:=(aa.mp h).1
  have:(gF m β).length=m:=by unfold gF;rw[aD,List.length_range']
  rw[nd_at (ω521 hk this)]at h
  cases h
  unfold ta
  rw[fS]
  refine⟨(id_nd k).filter _,λ j hj=>?_⟩
  refine aQ (yJ (List.mem_filter.mp hj).1) λ i z1_ hi=>?_;subst z1_
  exact pW hi
noncomputable def KT03 (w:World)(ns:List Int)(la:Addr):b4 where
 tab:=λ i=>(c_ i).map λ xs=>(149+(i - 149),xs)
 prog:=PySem.Challenge.rw_un0049_03.row.prog
 w:=w
 ns:=λ D=>if D=137 then[Str.ofString "_node2info",Str.ofString "_ready_nodes",Str.ofString "_npassedout",Str.ofString "_nfinished"]else[]
 num:=λ i=>if 1000<=i/\i<1999 then ns[i - 1000]? else if i=1999 then some (ns.length:Int)else none
 obj:=λ i=>if i=999 then some la else none
noncomputable def zJ (p:Program)(loose:List Str)(mg mb:Str->Option Value)(mean:ExcName->Option Value)(h0:Heap)(w:World)(ns:List Int)(la:Addr):Gd where
 K:=K03 w.params
 p:=p
 loose:=loose
 mg:=mg
 mb:=mb
 KT:=KT03 w ns la
 mean:=mean
 h0:=h0
theorem rO {i:Nat}(h:182<=i):c_ i=none:=by
 unfold c_
 rw[aS]
 exact aK.mpr (by show 33<=i - 149;exact ω522 h)
section
variable{p:Program}{loose:List Str}{mg mb:Str->Option Value}{mean:ExcName->Option Value}{h0:Heap}{w:World}{ns:List Int}{la:Addr}
theorem j9 {i:Nat}(h:182<=i):(zJ p loose mg mb mean h0 w ns la).KT.tab i=none:=by
 show(c_ i).map _=none
 rw[rO h];rfl
theorem tO {j:Nat}{m:Int}(h:ns[j]? =some m)(hlen:ns.length<=63):(zJ p loose mg mb mean h0 w ns la).KT.num (1000+j)=some m:=by
 have:=(aa.mp h).1
 show(if _ then _ else _)=_
 rw[if_pos ⟨by exact so,by exact ω523 this hlen⟩,show 1000+j - 1000=j by exact sn]
 exact h
theorem v_:Hd03 (zJ p loose mg mb mean h0 w ns la) w.params where
 K:=rfl
 ns:=rfl
 table:=.inl ⟨_,rfl,rfl⟩
 kt:=λ i xs h=>⟨_,by show(c_ i).map _=_;rw[h];rfl⟩
theorem ub {KT:b4}{vs:List Value}{ns:List Int}(hI:IntsAre vs ns):∀(f:Nat),(∀(j:Nat) (m:Int),ns[j]? =some m->KT.tab (f+j)=none/\KT.num (f+j)=some m)->VRs KT [] (Nat.rec (motive:=λ _=>Nat->List AV) (λ _=>[]) (λ _ ih i=>.kt i::ih (Nat.succ i)) ns.length f) vs:=by
 induction hI with
 |nil=>intro f h;exact .nil
 |cons n t r ih=>
  intro f h
  refine .cons (.inr (.inl ⟨(h 0 n rfl).1,n,t,(h 0 n rfl).2,rfl⟩)) (ih (f+1) λ j m e=>?_)
  have:=h (j+1) m e
  rw[show f+1+j=f+(j+1)by exact vh]
  exact this
theorem IntsAre.take {vs:List Value}{ns:List Int}(hI:IntsAre vs ns):∀n,IntsAre (vs.take n) (ns.take n):=by
 induction hI with
 |nil=>intro n;simp;exact .nil
 |cons m t r ih=>
  intro n
  cases n with
  |zero=>exact .nil
  |succ n=>exact .cons m t (ih n)
theorem IntsAre.drop {vs:List Value}{ns:List Int}(hI:IntsAre vs ns):∀n,IntsAre (vs.drop n) (ns.drop n):=by
 induction hI with
 |nil=>intro n;simp;exact .nil
 |cons m t r ih=>
  intro n
  cases n with
  |zero=>exact .cons m t r
  |succ n=>exact ih n
theorem pw {p:Prop}[Decidable p] {α:Type}{x:Option α}{c:α}(h:(if p then x else none)=some c):p/\x=some c:=by
 by_cases q:p
 ·exact⟨q,(if_pos q).symm.trans h⟩
 ·cases(if_neg q).symm.trans h
theorem iteE {p:Prop}[Decidable p] {α:Type}{x y z:α}(h:(if p then x else y)=z):p/\x=z∨¬p/\y=z:=by
 by_cases q:p
 ·exact .inl ⟨q,(if_pos q).symm.trans h⟩
 ·exact .inr ⟨q,(if_neg q).symm.trans h⟩
theorem mapS {α β:Type}{o:Option α}{f:α->β}{c:β}(h:o.map f=some c):∃m,o=some m/\f m=c:=by
 cases o with
 |none=>cases h
 |some m=>exact⟨m,rfl,aj h⟩
structure TG (G:Gd) (ns:List Int) (la:Addr):Prop where
 tab:∀{i:Nat},182<=i->G.KT.tab i=none
 num:∀{j:Nat} {m:Int},ns[j]? =some m->ns.length<=63->G.KT.num (1000+j)=some m
 len:G.KT.num 1999=some (ns.length:Int)
 nno:G.KT.num 999=none
 obj:G.KT.obj 999=some la
theorem tg03:TG (zJ p loose mg mb mean h0 w ns la) ns la:=⟨j9,tO,rfl,rfl,rfl⟩
end
section
variable{G:Gd}{ns:List Int}{la:Addr}
theorem zv (T:TG G ns la){i:Nat}{m:Int}(q:1000<=i)(h:ns[i - 1000]? =some m)(hlen:ns.length<=63):G.KT.tab i=none/\G.KT.num i=some m:=by
 refine eE (Nat.exists_eq_add_of_le q) λ k e=>?_;subst e
 rw[Nat.add_sub_cancel_left]at h
 exact⟨T.tab (Nat.le_trans (aO rfl) q),T.num h hlen⟩
theorem slc1 {α:Type}(vs:List α):d7 vs none (some 4)=vs.take 4:=by
 rw[dD]
 show vs.take (clipAt vs.length 4)=_
 rw[show clipAt vs.length 4=min 4 vs.length from clipAt_nat vs.length 4,← List.take_eq_take_min]
theorem slc2 {α:Type}(vs:List α):d7 vs (some 4) (some 9)=(vs.drop 4).take 5:=by
 rw[dD]
 show(vs.drop (clipAt vs.length 4)).take (clipAt vs.length 9 - clipAt vs.length 4)=_
 rw[show clipAt vs.length 4=min 4 vs.length from clipAt_nat vs.length 4,show clipAt vs.length 9=min 9 vs.length from clipAt_nat vs.length 9]
 by_cases hv:4<=vs.length
 ·rw[show min 4 vs.length=4 from Nat.min_eq_left hv]
  rw[List.take_eq_take_min,List.take_eq_take_min (i:=5),List.length_drop]
  rw[← Nat.sub_min_sub_right,Nat.min_assoc,Nat.min_self]
 ·have hv:=Nat.le_of_not_le hv
  rw[show min 4 vs.length=vs.length from Nat.min_eq_right hv,List.drop_eq_nil_iff.mpr hv,List.drop_eq_nil_iff.mpr (Nat.le_refl _),List.take_nil,List.take_nil]
theorem xu (T:TG G ns la){vs:List Value}{f n:Nat}{l:List Int}(hl:IntsAre vs (l.take n))(hf:1000<=f)(h:∀{j m},l[j]? =some m->ns[f+j - 1000]? =some m)(hlen:ns.length<=63):VRs G.KT [] (lu (l.take n).length f) vs:=
 ub hl f λ j m q=>by
  rw[List.getElem?_take]at q
  exact zv T (Nat.le_trans hf (aZ _ _)) (h (pw q).2) hlen
theorem vo (T:TG G ns la){vs:List Value}(hL:G.h0.IsList la vs.toArray)(hI:IntsAre vs ns)(hlen:ns.length<=63):lH G (fH ns) where
 md:=λ i n c h=>eA (pw h) λ q h=>aQ (mapS h) λ m e h=>eA (zv T q.1 e hlen) λ t1 t2=>⟨t1,m,t2,q.2,h⟩
 bt:=λ i j c h=>eA (pw h) λ q h=>aQ (mapS h) λ m e h=>eA (zv T q.1 e hlen) λ t1 t2=>⟨t1,m,t2,q.2,h⟩
 sl:=λ i y z xs h=>by
  refine eA (pw h) λ q h=>?_
  have hz:vs.toArray.size<=16777216:=by rw[List.size_toArray,hI.length];exact Nat.le_trans hlen (aO rfl)
  subst q
  replace h:bb (mc y .none) (bb (mc z (.int 4)) (some (lu (min ns.length 4) 1000)) none) (bb (mc y (.int 4)) (bb (mc z (.int 9)) (some (lu ((ns.drop 4).take 5).length 1004)) none) none)=some xs:=h
  cases q1:mc y .none with
  |true=>
   rw[q1]at h
   refine ay (show bb (mc z (.int 4)) (some (lu (min ns.length 4) 1000)) none=some xs from h) λ q2 h=>?_
   rw[hS q1,hS q2]
   cases h
   refine⟨T.tab (aO rfl),T.nno,la,vs.toArray,none,some 4,T.obj,hL,hz,rfl,rfl,?_⟩
   show VRs _ [] (lu (min ns.length 4) 1000) (d7 vs none (some 4))
   rw[slc1,Nat.min_comm,← cO]
   exact xu T (IntsAre.take hI 4) (Nat.le_refl _) (λ q=>by rw[Nat.add_sub_cancel_left];exact q) hlen
  |false=>
   rw[q1]at h
   refine ay (show bb (mc y (.int 4)) (bb (mc z (.int 9)) (some (lu ((ns.drop 4).take 5).length 1004)) none) none=some xs from h) λ q1 h=>ay h λ q2 h=>?_
   rw[hS q1,hS q2]
   cases h
   refine⟨T.tab (aO rfl),T.nno,la,vs.toArray,some 4,some 9,T.obj,hL,hz,rfl,rfl,?_⟩
   show VRs _ [] (lu ((ns.drop 4).take 5).length 1004) (d7 vs (some 4) (some 9))
   rw[slc2]
   exact xu T (IntsAre.take (IntsAre.drop hI 4) 5) (aO rfl) (λ{j m} q=>by rw[List.getElem?_drop]at q;rw[show 1004+j=1000+(4+j)from Nat.add_assoc 1000 4 j,Nat.add_sub_cancel_left];exact q) hlen
 ln:=λ i v h=>by
  refine eA (pw h) λ q h=>?_
  have hl:=hI.length
  have hz:vs.toArray.size<=16777216:=by rw[List.size_toArray,hI.length];exact Nat.le_trans hlen (aO rfl)
  subst q
  refine⟨T.tab (aO rfl),T.nno,la,vs.toArray,T.obj,hL,hz,?_,λ tk=>?_⟩
  ·rcases iteE h with⟨_,h⟩|⟨_,h⟩<;>cases h<;>rfl
  ·rcases iteE h with⟨_,h⟩|⟨_,h⟩<;>cases h
   ·exact⟨tk,by rw[List.size_toArray,hl]⟩
   ·exact .inr (.inl ⟨T.tab (aO rfl),_,tk,T.len,by rw[List.size_toArray,hl]⟩)
 cl:=λ i n k h=>by
  refine eA (pw h) λ q h=>?_
  cases h
  refine fT q λ z1_ q2 q3=>?_;subst z1_
  refine⟨T.tab (aO rfl),_,T.len,?_⟩
  rw[clipAt_nat]
  exact ω537 q2 q3
 gt:=λ i n b h=>by
  refine eA (pw h) λ q h=>?_
  cases h
  refine eA q λ z1_ q2=>?_;subst z1_
  exact⟨T.tab (aO rfl),_,T.len,rfl⟩
end
section
variable{p:Program}{loose:List Str}{mg mb:Str->Option Value}{mean:ExcName->Option Value}{h0:Heap}{w:World}{ns:List Int}{la:Addr}
open Classical in
noncomputable def sj (h0:Heap):Base:=λ a=>match h0.get? a with
 |some o=>some (.ex o)
 |none=>if a=sysModules then some .no else none
theorem vc:Kept (sj h0) h0:=λ b x e=>by
 unfold sj at e
 split at e
 ·rename_i o ho;cases e;exact ho
 ·split at e
  ·rename_i q;cases e;exact q
  ·cases e
theorem jd {h:Heap}(k:Kept (sj h0) h){b:Addr}{o:Obj}(e:h0.get? b=some o):h.get? b=some o:=k b (.ex o) (by unfold sj;rw[e])
noncomputable def env03 (L:Addr):Env:={scope:={kind:=.function,names:=[],isGenerator:=false,isCoroutine:=false},locals:=L,globals:=mainGlobals,cells:=[],builtins:=builtinsNs}
noncomputable def C03 (h0:Heap):Cx:=⟨sj h0,callerA,env03 h0.objs.size,[],[],[],21,true,c_⟩
theorem t_:∀(i:Nat) (p:Addr×List AV),(c_ i).map (λ xs=>((149+(i - 149):Addr),xs))=some p->∃j xs,qz[j]? =some xs/\p=(149+j,xs):=by
 intro i p h
 cases q:c_ i with
 |none=>rw[q]at h;cases h
 |some xs=>
  rw[q]at h
  cases h
  unfold c_ at q
  rw[aS]at q
  exact⟨_,xs,q,rfl⟩
noncomputable def oN (P:Nat->List AV->Prop):Nat->List (List AV)->Prop
 |_,[]=>True
 |n,x::l=>P n x/\oN P (n+1) l
theorem mf {P:Nat->List AV->Prop}:∀{l:List (List AV)} {n j:Nat} {x:List AV},oN P n l->l[j]? =some x->P (n+j) x
 |[],_,_,_,_,e=>by simp at e
 |y::l,n,0,x,h,e=>by simp at e;subst e;exact h.1
 |y::l,n,j+1,x,h,e=>by
  have:=mf (l:=l) (n:=n+1) (j:=j) h.2 (by simpa using e)
  rw[show n+(j+1)=n+1+j by exact xf]
  exact this
theorem tp_at {h:Heap}{KT:b4}{a:Addr}{xs:List AV}{vs:Array Value}{n:Nat}(X:h.get? a=some ⟨.type "tuple",none,.seq vs n,#[]⟩)(c:VRs KT [] xs vs.toList):∃ob,h.get? a=some ob/\OR KT [] (.tup xs) ob:=⟨_,X,vs,n,rfl,c⟩
theorem vr_i {KT:b4}{i:Int}{k:Tok}{xs:List AV}{vs:List Value}(c:VRs KT [] xs vs):VRs KT [] (.int i::xs) (.int i k::vs):=.cons ⟨_,rfl⟩ c
theorem vr_s {KT:b4}{i:List Nat}{k:Tok}{xs:List AV}{vs:List Value}(c:VRs KT [] xs vs):VRs KT [] (.str i::xs) (.str ⟨i.toArray⟩ k::vs):=.cons ⟨_,rfl⟩ c
theorem vr_k {KT:b4}{i:Nat}{a:Addr}{ys xs:List AV}{vs:List Value}(e:KT.tab i=some (a,ys))(c:VRs KT [] xs vs):VRs KT [] (.kt i::xs) (.ref a::vs):=.cons (.inl ⟨_,e,rfl⟩) c
theorem tb_c {P:Nat->List AV->Prop}{n:Nat}{x:List AV}{l:List (List AV)}(a:P n x)(b:oN P (n+1) l):oN P n (x::l):=⟨a,b⟩
theorem x9 {h:Heap}(X:(K03 w.params).In h):oN (λ a xs=>∃ob,h.get? a=some ob/\OR (zJ p loose mg mb mean h0 w ns la).KT [] (.tup xs) ob) 149 qz:=by
 unfold qz
 repeat' first
  |exact trivial
  |refine tb_c (tp_at (X _ _ rfl) ?_) ?_
  |exact .nil
  |refine vr_i ?_
  |refine vr_s ?_
  |refine vr_k rfl ?_
theorem cx03 (X:(K03 w.params).In h0)(T:Top p loose mean mg mb h0):CxOk (zJ p loose mg mb mean h0 w ns la) (C03 h0) where
 fn:=rfl
 gl:=rfl
 bi:=rfl
 nd:=List.nodup_nil
 loc:=λ i x e=>by cases e
 dbg:=λ x hx=>by cases hx
 Lb:=by
  show sj h0 h0.objs.size=none
  unfold sj
  split
  ·rename_i o ho;exact absurd (Heap.lt_size ho) (aM _)
  ·rw[if_neg]
   intro q
   have:3<h0.objs.size:=T.g.lt
   rw[q]at this
   exact absurd this (by decide)
 glo:=λ x hx=>by cases hx
 dep:=by show 301+21<recursionLimit;decide
 uni:=by show 4+8*21+200<cLine;decide
 hh:=λ _=>rfl
 kin:=λ h k=>X.keeps λ b o e=>jd k e
 top:=λ h k=>topRead_of (T.keeps λ b o e=>jd k e)
 tab:=λ h k i p e=>by
  refine ez (t_ i p e) λ j xs hj z1_=>?_;subst z1_
  exact mf (x9 (X.keeps λ b o e=>jd k e)) hj
 b0:=λ h k b o e=>jd k e
 ab:=Nat.le_refl _
 sm:=by
  show sj h0 sysModules≠none
  unfold sj
  split
  ·nofun
  ·rw[if_pos rfl];nofun
 h0B:=λ a o e=>by
  show sj h0 a≠none
  unfold sj
  rw[show h0.get? a=some o from e]
  nofun
 X0:=X
 T0:=T
 ktok:=λ i xs e=>⟨_,by show(c_ i).map _=_;rw[show c_ i=some xs from e];rfl⟩
 fl:=⟨[],rfl,λ e he=>by cases he⟩
theorem law03 {s:Shared}{vs:List Value}{R:Result->Shared->Prop}(X:(K03 w.params).In s.heap)(T:Top p loose mean mg mb s.heap)(hL:s.heap.IsList la vs.toArray)(hI:IntsAre vs ns)(hlen:ns.length<=63)
  (hR:∀h' tk',(∀b o,s.heap.get? b=some o->h'.get? b=some o)->R (.ok (.ret (.bool true))) {s with heap:=h',toks:=tk'}):
  codeAny (model PySem.Challenge.rw_un0049_03.row.prog w) callerA (.call (.ref 233) ⟨[.ref la],[]⟩) R s:=by
 have H:=v_ (p:=p) (loose:=loose) (mg:=mg) (mb:=mb) (mean:=mean) (h0:=s.heap) (w:=w) (ns:=ns) (la:=la)
 have Ht:=vo (tg03 (p:=p) (loose:=loose) (mg:=mg) (mb:=mb) (mean:=mean) (h0:=s.heap) (w:=w)) hL hI hlen
 refine ez (zt H Ht) λ fd body F hb=>?_
 have hsx:=yD (kt:=c_) (lawT (ns:=ns)) (nok (lawT (ns:=ns)).hm _)
 refine bR (qp (O:=OS) (X:=λ _=>False) (st:=[]) (vs:=[AV.kt 999]) (ts:=[.mk 0 (AV.kt 999)]) (n:=8) (d:=8) (nc:=4) (hn:=true) (kt:=c_) (vk:=[.loc,.loc,.new 0,.new 1,.loc,.new 2,.loc,.new 3]) (b:=re (fH ns)) (m:=0) (V:=AV.bool true) (λ p hp=>hp.elim) (.cons ⟨rfl,rfl⟩ .nil) (by simp) rfl ⟨_,rfl⟩ λ cs' hcs=>by
  have hcs:cs'=[none,none,some 0,some 1,none,some 2,none,some 3]:=(aj hcs).symm
  subst hcs
  exact hsx) λ v σ hr hu _=>?_
 refine eA hu λ z1_ _=>?_;clear hu;subst z1_
 have ok:=cx03 (ns:=ns) (la:=la) X T
 refine ow (G:=zJ p loose mg mb mean s.heap w ns la) (C:=C03 s.heap) F hb ok (d:=8) (aO rfl) (hn':=true) (λ _=>rfl) (kt':=c_) ok.ktok (B:=sj s.heap) (ρ:=[]) (st:=[]) (s:=s) (Nat.le_refl _) ok.sm ok.h0B (λ h k=>k) (λ l hl _ L e he=>by cases hl;cases he) ⟨vc,rfl,List.nodup_nil,λ a ha=>(by cases ha),λ i a o e=>(by cases e)⟩
  (vs:=[.kt 999]) (xs:=[.ref la]) rfl (.cons (.inr (.inr ⟨j9 (by decide),rfl,la,rfl,rfl⟩)) .nil) (n:=8) hr nofun λ ρ' a h' tk' _ R' ra=>?_
 refine aQ ra λ x z1_ rx=>?_;clear ra;subst z1_
 cases(show x= .bool true from rx)
 exact hR h' tk' λ b o e=>jd R'.kept e
end

end Mine

set_option maxRecDepth 100000 in
set_option maxHeartbeats 8000000 in
theorem PySem.Challenge.cw_un0049_03_holds : PySem.Challenge.rw_un0049_03.Holds := by
 w_on
 refine PySem.W.holds_law (by kernel_rfl) λ said=>?_
 refine PySem.W.holds_open (q:=Mine.view03) (loose:=Mine.loose03) (Xt:=λ _=>true) (XP:=λ _ _=>True) (Yf:=Hook.obs Mine.hook03) (Ya:=Hook.val Mine.hook03) (YP:=Hook.says Mine.hook03) (N:=3550) Mine.left03 (Hook.of Mine.hook03) (Hook.keeps Mine.hook03) (λ s e=>trivial) (λ _ _ _ _ _=>trivial) (by rfl) (by rfl) (by rfl) (λ s e=>recFacts_of (by rfl)) (by rfl) (by first|assumption|decide+kernel) (by decide+kernel) ⟨rfl,rfl,rfl,rfl,rfl,by decide+kernel⟩ ?hw ?hc
 case hw=>w_witness2
 case hc=>
  intro w s'0 s'1 mg mb G Y fa o pm cd doc dV kV ho hd hcd hD hmg hg args vals as hpre hlay hrd hwl hlo
  have KX:(Mine.K03 w.params).In s'1.heap:=kIn_of (e:=Mine.as03_ok) Y
  clear Y
  refine Ground.open G ?_
  intro T B D TE TW
  clear B D TE TW G hcd hD hd
  wrow_args hpre hlay hrd hwl hlo
  have e1:mg "law"=some (.ref 233):=mg_of KX T.g rfl
  have e2:Value.ref fa=Value.ref 233:=Option.some.inj (hmg.symm.trans e1)
  rename_i hL _ _ _ hI _ hc _
  refine enter_call ?_
  rw[e2]
  refine Mine.law03 KX T hL hI (by exact Mine.ω538 hc) λ h' tk' hk=>?_
  exact GoodW.toG ⟨.inl ⟨.bool true,.bool true,[],rfl,λ _=>rfl,.bool true,(by wrow_post),λ _=>⟨List.nodup_nil,λ _ h=>by cases h⟩⟩,hk,rfl,hg⟩

